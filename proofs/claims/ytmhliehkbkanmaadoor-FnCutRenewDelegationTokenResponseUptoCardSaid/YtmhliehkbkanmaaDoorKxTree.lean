/- Library texts Each5 SortP Tree, joined. -/
import Derived.Test.YtmhliehkbkanmaaDoorKxEach4
import Derived.Sort.LotA
import Derived.Lib.OwnBridge
import Derived.Sort.Grow
import Derived.Test.YtmhliehkbkanmaaDoorKxMem
/- Going through a map of tags: what stands while the keys are collected. -/
namespace Go.Kx
open Go.RowKit
set_option linter.unusedSimpArgs false
set_option linter.unusedVariables false

/-- What turns elsewhere leaves the box. -/
theorem BoxSt.other {e : TypeId} {w0 : World} {d0 : Value} {bo : Nat} {tS : TypeId} {X X' : Nat → Prop} {w w' : World} {d : Value} {bs : List UInt8} (h : BoxSt e w0 d0 bo tS X w d bs) {Y : Nat → Prop} (hch : Ch Y w w')
    (hY : ∀ i, i < w.heap.size → Y i → w0.heap.size ≤ i ∧ i ≠ bo ∧ d.ownBlock ≠ some i) (hX : ∀ i, X' i → i < w'.heap.size ∧ d.ownBlock ≠ some i ∧ i ≠ bo) : BoxSt e w0 d0 bo tS X' w' d bs := by
  have hbo : bo < w.heap.size := h.blk.lt
  have kd : ∀ k, d.ownBlock = some k → w'.heap[k]? = w.heap[k]? := fun k hk => hch.block k (h.grew.own.lt hk) fun hy => (hY k (h.grew.own.lt hk) hy).2.2 hk
  refine ⟨h.blk.keep (hch.block bo hbo fun hy => (hY bo hbo hy).2.1 rfl), ⟨h.grew.own.keep kd, ?_, h.grew.blk⟩, h.ne, h.lo, hX⟩
  refine ⟨hch.os.trans h.grew.ch.os, hch.tape.trans h.grew.ch.tape, hch.output.trans h.grew.ch.output, Nat.le_trans h.grew.ch.size hch.size, fun k hk hn => ?_⟩
  have hkw : k < w.heap.size := Nat.lt_of_lt_of_le hk h.grew.ch.size
  rw [hch.block k hkw fun hy => by have := (hY k hkw hy).1; omega]
  exact h.grew.ch.block k hk hn

/-- Keys collected in a box of their own, beside the box of the slice that grows. -/
structure KSt (e eK tS tK : TypeId) (w0 : World) (d0 : Value) (bo : Nat) (d : Value) (bs : List UInt8) (B : Nat) (w : World) (v : Value) (ks : List Nat) : Prop where
  box : BoxSt e w0 d0 bo tS (fun _ => False) w d bs
  blk : Blk w B tK [v]
  own : KOwn eK w v ks
  ne : v.ownBlock ≠ some B
  lo : w0.heap.size ≤ B ∧ B ≠ bo ∧ d.ownBlock ≠ some B
  vlo : ∀ i, v.ownBlock = some i → w0.heap.size ≤ i ∧ i ≠ bo ∧ d.ownBlock ≠ some i

theorem KSt.other {e eK tS tK : TypeId} {w0 : World} {d0 : Value} {bo : Nat} {d : Value} {bs : List UInt8} {B : Nat} {w w' : World} {v : Value} {ks : List Nat} (h : KSt e eK tS tK w0 d0 bo d bs B w v ks) {Y : Nat → Prop} (hch : Ch Y w w')
    (hY : ∀ i, i < w.heap.size → Y i → w0.heap.size ≤ i ∧ i ≠ bo ∧ d.ownBlock ≠ some i ∧ i ≠ B ∧ v.ownBlock ≠ some i) : KSt e eK tS tK w0 d0 bo d bs B w' v ks := by
  refine ⟨h.box.other hch (fun i hi hy => ⟨(hY i hi hy).1, (hY i hi hy).2.1, (hY i hi hy).2.2.1⟩) (fun _ hf => hf.elim), h.blk.keep (hch.block B h.blk.lt fun hy => (hY B h.blk.lt hy).2.2.2.1 rfl), h.own.keep fun k hk => hch.block k (h.own.lt hk) fun hy => (hY k (h.own.lt hk) hy).2.2.2.2 hk, h.ne, h.lo, h.vlo⟩

/-- One key more, stored. -/
theorem KSt.push {e eK tS tK : TypeId} {w0 : World} {d0 : Value} {bo : Nat} {d : Value} {bs : List UInt8} {B : Nat} {w w' : World} {v v' : Value} {ks : List Nat} {k : Nat} (h : KSt e eK tS tK w0 d0 bo d bs B w v ks) (hch : Ch (fun i => v.ownBlock = some i) w w') (hown : KOwn eK w' v' (ks ++ [k]))
    (hv : ∀ i, v'.ownBlock = some i → v.ownBlock = some i ∨ w.heap.size ≤ i) : KSt e eK tS tK w0 d0 bo d bs B (w'.setCell ⟨B, 0, none⟩ v') v' (ks ++ [k]) ∧ Blk w' B tK [v] := by
  have hB : B < w.heap.size := h.blk.lt
  have hb' : Blk w' B tK [v] := h.blk.keep (hch.block B hB h.ne)
  have hne : v'.ownBlock ≠ some B := fun hh => by
    rcases hv B hh with h1 | h1
    · exact h.ne h1
    · omega
  have hsc : Ch (fun i => i = B) w' (w'.setCell ⟨B, 0, none⟩ v') := Ch.set (S := fun i => i = B) w' (a := ⟨B, 0, none⟩) rfl v'
  have hb1 : BoxSt e w0 d0 bo tS (fun _ => False) w' d bs := h.box.other hch (fun i hi hy => h.vlo i hy) (fun _ hf => hf.elim)
  have hb2 : BoxSt e w0 d0 bo tS (fun _ => False) (w'.setCell ⟨B, 0, none⟩ v') d bs := hb1.other hsc (fun i hi hy => by subst hy; exact h.lo) (fun _ hf => hf.elim)
  refine ⟨⟨hb2, by simpa using hb'.set 0 v', hown.keep fun i hi => hsc.block i (hown.lt hi) fun hy => hne (hy ▸ hi), hne, h.lo, fun i hi => ?_⟩, hb'⟩
  rcases hv i hi with h1 | h1
  · exact h.vlo i h1
  · have h2 := h.box.blk.lt
    have h3 := h.box.grew.ch.size
    exact ⟨by omega, by omega, fun hd => by have := h.box.grew.own.lt hd; omega⟩

def keyN (e : MapEntry) : Nat := match e.key with | .int _ n => n.toNat | _ => 0
theorem keys_of {w : World} {S : Nat → Prop} : ∀ {es : List MapEntry} {l : List (Nat × List UInt8)}, All2 (TagAt w S) es l → es.map keyN = l.map (·.1) ∧ ∀ e ∈ es, e.key = kv (keyN e)
  | _, _, .nil => ⟨rfl, fun _ h => by cases h⟩
  | e :: es, x :: l, .cons h t => by
    obtain ⟨h1, h2⟩ := keys_of t
    have hk : keyN e = x.1 := by unfold keyN; rw [h.1]; simp
    refine ⟨by simp [hk, h1], fun e' he => ?_⟩
    rcases List.mem_cons.1 he with rfl | he
    · rw [hk, h.1]; rfl
    · exact h2 e' he

theorem setBlock_ch (w : World) (r : Nat) (o : Obj) : Ch (fun i => i = r) w (ChangeMaps.setBlock w r o) := by
  refine ⟨rfl, rfl, rfl, by simp [ChangeMaps.setBlock], fun k hk hne => ?_⟩
  simp only [ChangeMaps.setBlock]
  rw [Array.getElem?_setIfInBounds, if_neg (fun e => hne e.symm)]
theorem setBlock_at {w : World} {r : Nat} (o : Obj) (h : r < w.heap.size) : (ChangeMaps.setBlock w r o).heap[r]? = some o := by
  simp only [ChangeMaps.setBlock]
  rw [Array.getElem?_setIfInBounds, if_pos rfl, if_pos h]
theorem step_ch {w w1 : World} (h : w1 = w ∨ w1 = w.drew) (r : Nat) (o : Obj) : Ch (fun i => i = r) w (ChangeMaps.setBlock w1 r o) := by
  rcases h with rfl | rfl
  · exact setBlock_ch _ r o
  · exact (Ch.drew (fun i => i = r) w).trans (setBlock_ch _ r o) fun i _ h => h
theorem step_at {w w1 : World} (h : w1 = w ∨ w1 = w.drew) {r : Nat} (o : Obj) (hr : r < w.heap.size) : (ChangeMaps.setBlock w1 r o).heap[r]? = some o := by
  rcases h with rfl | rfl
  · exact setBlock_at o hr
  · exact setBlock_at (w := w.drew) o hr

theorem OpK.makeIf {P : Program} {ρ : Operand → Value} {w : World} {K : Value → World → Prop} {d : Option Tmp} {ty : TypeId} {pos : String} {af : Array Edge} {g : Option (Nat × Bool)} {x : Operand} {t e : TypeId} {v : Value} (ht : P.underlying t = some (.slice e)) (hx : ρ x = v) (h : K (.iface t v) w) : OpK P ρ ⟨d, .makeInterface t x, ty, pos, af, g⟩ w K := by
  simp [OpK, execOp, hx, Instr.makeInterface, run_underlying ht, After]
  exact h

theorem calls_args {P : Program} {f : FuncId} {a b : Array Value} {w : World} {Q : Ending → World → Prop} (h : a = b) (hc : Calls P f a w Q) : Calls P f b w Q := h ▸ hc
end Go.Kx

/- The keys' own order: plain laws for the library's sort. -/
namespace Go.Kx
open Go.Sort Go.Proofs
set_option linter.unusedSimpArgs false
set_option linter.unusedVariables false
def ltNat (x y : Nat) : Bool := decide (x < y)
theorem swo_ltNat : SWO ltNat := by
  refine ⟨fun x => by simp [ltNat], fun x y z => by simp only [ltNat, decide_eq_true_eq]; omega, fun x y z => by simp only [ltNat, decide_eq_false_iff_not]; omega⟩
theorem nat_sorted_eq (d d' : Array Nat) (hp : PermIn 0 d.size d d') (hs : SortedIn ltNat 0 d.size d') : d' = (d.toList.mergeSort fun x y => decide (x ≤ y)).toArray := by
  have h := sorted_unique_holds (lt := ltNat) swo_ltNat (fun x y h1 h2 => by simp only [ltNat, decide_eq_false_iff_not] at h1 h2; omega) d d' hp hs
  have e : (fun x y : Nat => !ltNat y x) = fun x y => decide (x ≤ y) := by
    funext x y
    simp only [ltNat]
    by_cases h : x ≤ y
    · first | (simp [h]; done) | (simp [h]; omega)
    · first | (simp [h]; done) | (simp [h]; omega)
  rw [e] at h
  rw [← h]
theorem sorted_perm (ks : List Nat) : (ks.mergeSort fun x y => decide (x ≤ y)).Perm ks := List.mergeSort_perm _ _
theorem sorted_rises (ks : List Nat) : (ks.mergeSort fun x y => decide (x ≤ y)).Pairwise (· ≤ ·) := by
  have := List.pairwise_mergeSort (le := fun x y : Nat => decide (x ≤ y)) (fun a b c h1 h2 => by simp only [decide_eq_true_eq] at *; omega) (fun a b => by simp only [Bool.or_eq_true, decide_eq_true_eq]; omega) ks
  exact this.imp fun h => by simpa using h

theorem sort_end {e : TypeId} {w : World} {g c n : Nat} {ks ds : List Nat} {os : Array Obj} (hown : KOwn e w (.slice (some ⟨g, 0, none⟩) ks.length c) ks) (hl : ds.length = ks.length) :
    KOwn e (Sort.grow (putRow kv (Sort.ahead w n) g 0 ds.toArray) os) (.slice (some ⟨g, 0, none⟩) ks.length c) ds ∧ Ch (fun k => k = g) w (Sort.grow (putRow kv (Sort.ahead w n) g 0 ds.toArray) os) := by
  have hg : g < w.heap.size := hown.lt rfl
  have h1 := Lib.ownsRow_putRow (q := n) (k := ks.length) (ys := ds) hown hl (Nat.le_refl _)
  have hsz : (putRow kv (Sort.ahead w n) g 0 ds.toArray).heap.size = w.heap.size := by simp [putRow, mapBlock, Sort.ahead]
  have hgr : ∀ k, k < w.heap.size → (Sort.grow (putRow kv (Sort.ahead w n) g 0 ds.toArray) os).heap[k]? = (putRow kv (Sort.ahead w n) g 0 ds.toArray).heap[k]? := fun k hk => by
    simp only [Sort.grow]
    rw [Array.getElem?_append_left (by rw [hsz]; exact hk)]
  constructor
  · have h2 : KOwn e (putRow kv (Sort.ahead w n) g 0 ds.toArray) (.slice (some ⟨g, 0, none⟩) ks.length c) ds := by
      unfold KOwn
      rw [List.take_of_length_le (by omega), ← hl] at h1
      rw [← hl]
      exact h1
    exact h2.keep fun k hk => by
      simp only [Value.ownBlock, Option.some.injEq] at hk
      subst hk
      exact hgr _ hg
  · refine ⟨rfl, rfl, rfl, by simp [Sort.grow, hsz], fun k hk hne => ?_⟩
    rw [hgr k hk]
    simp only [putRow, mapBlock, Sort.ahead]
    rw [Array.getElem?_modify, if_neg (fun h => hne h.symm)]
theorem pw_one : ∀ {ks : List Nat}, ks.length = 1 → ks.Pairwise (· ≤ ·)
  | [_], _ => List.pairwise_singleton _ _
end Go.Kx

/- What the reference writes of a tree, in plain Lean; and that it is what the message's fields write of a value. -/
namespace Go.Kx
set_option linter.unusedSimpArgs false
set_option linter.unusedVariables false

/-- What a field says. -/
inductive Tr where
  | mk (n : Int) (s : List UInt8) (null : Bool) (l : List Tr) (u : List (UInt32 × List UInt8))
/-- A field. -/
inductive Fld where
  | mk (kind lo hi null tag dflt of : Int) (sub : List Fld)

def Tr.n : Tr → Int | .mk n _ _ _ _ => n
def Tr.s : Tr → List UInt8 | .mk _ s _ _ _ => s
def Tr.null : Tr → Bool | .mk _ _ b _ _ => b
def Tr.l : Tr → List Tr | .mk _ _ _ l _ => l
def Tr.u : Tr → List (UInt32 × List UInt8) | .mk _ _ _ _ u => u
def Tr.zero : Tr := .mk 0 [] false [] []
def Tr.at (t : Tr) (i : Nat) : Tr := t.l.getD i .zero
def Fld.kind : Fld → Int | .mk a _ _ _ _ _ _ _ => a
def Fld.lo : Fld → Int | .mk _ a _ _ _ _ _ _ => a
def Fld.hi : Fld → Int | .mk _ _ a _ _ _ _ _ => a
def Fld.null : Fld → Int | .mk _ _ _ a _ _ _ _ => a
def Fld.tag : Fld → Int | .mk _ _ _ _ a _ _ _ => a
def Fld.dflt : Fld → Int | .mk _ _ _ _ _ a _ _ => a
def Fld.of : Fld → Int | .mk _ _ _ _ _ _ a _ => a
def Fld.sub : Fld → List Fld | .mk _ _ _ _ _ _ _ a => a

def hasL (f : Fld) (v : Int) : Bool := decide (f.lo ≤ v) && (decide (f.hi < 0) || decide (v ≤ f.hi))
def canNull (f : Fld) (v : Int) : Bool := decide (f.null ≥ 0) && decide (v ≥ f.null)
def nullL (f : Fld) (v : Int) (t : Tr) : Bool := t.null && canNull f v
def wholeL (b : List UInt8) : List UInt8 := b.take 32767
def countedL (fx null : Bool) (n size : Nat) : List UInt8 := if fx then (if null then [0] else uvar (n + 1)) else if null then be size (-1) else be size n
def widthL (kind : Int) : Nat := if kind = 1 then 1 else if kind = 2 ∨ kind = 5 then 2 else if kind = 3 then 4 else 8
def uuidL (s : List UInt8) : List UInt8 := (s ++ List.replicate 16 0).take 16
def valL (pt : List Fld → Tr → List UInt8) (kind : Int) (sub : List Fld) (null fx : Bool) (t : Tr) : List UInt8 :=
  if kind = 0 then [UInt8.ofNat (t.n % 2).toNat]
  else if kind = 7 then uuidL t.s
  else if kind = 8 then countedL fx null (if null then [] else wholeL t.s).length 2 ++ (if null then [] else wholeL t.s)
  else if kind = 9 then countedL fx null (if null then [] else wholeL t.s).length 4 ++ (if null then [] else wholeL t.s)
  else if kind = 10 then pt sub t
  else be (widthL kind) t.n
def thingsL (null : Bool) (t : Tr) : List Tr := if null then [] else t.l.take 32767
def fldL (pt : List Fld → Tr → List UInt8) (f : Fld) (ver : Int) (fx : Bool) (t : Tr) : List UInt8 :=
  if f.kind = 11 then countedL fx (nullL f ver t) (thingsL (nullL f ver t) t).length 4 ++ (thingsL (nullL f ver t) t).flatMap (valL pt f.of f.sub false fx)
  else if f.kind = 10 ∧ f.null ≥ 0 then (if nullL f ver t then [255] else 1 :: pt f.sub t)
  else valL pt f.kind f.sub (nullL f ver t) fx t

def insU (out : List (Nat × List UInt8)) (t : Nat × List UInt8) : List (Nat × List UInt8) := if out.any (fun x => x.1 == t.1) then out else insTag t out
def unkL (u : List (UInt32 × List UInt8)) : List (Nat × List UInt8) := ((u.take 32767).map fun x => (x.1.toNat, x.2)).foldl insU []
def tagL (u : Nat × List UInt8) : List UInt8 := uvar u.1 ++ uvar (wholeL u.2).length ++ wholeL u.2
def tagsL (t : Tr) : List UInt8 := uvar (unkL t.u).length ++ (unkL t.u).flatMap tagL
/-- The fields that a version has, each with its place. -/
def acts (ver : Int) (flds : List Fld) : List (Fld × Nat) := flds.zipIdx.filter fun x => decide (x.1.tag < 0) && hasL x.1 ver
def partG (pt : List Fld → Tr → List UInt8) (ver : Int) (fx : Bool) (flds : List Fld) (t : Tr) : List UInt8 :=
  (acts ver flds).flatMap (fun x => fldL pt x.1 ver fx (t.at x.2)) ++ if fx then tagsL t else []
def partF (ver : Int) (fx : Bool) : Nat → List Fld → Tr → List UInt8
  | 0 => fun _ _ => []
  | d + 1 => partG (partF ver fx d) ver fx

def Fld.parts (f : Fld) : Bool := f.kind == 10 || (f.kind == 11 && f.of == 10)
/-- No field has a tag; parts within parts are no deeper than d. -/
def plainB : Nat → List Fld → Bool
  | 0, _ => false
  | d + 1, flds => flds.all fun f => decide (f.tag < 0) && (!f.parts || plainB d f.sub)

def kindW : Wt → Int → Bool
  | .bool, k => k == 0 | .i8, k => k == 1 | .e8, k => k == 1 | .i16, k => k == 2 | .i32, k => k == 3 | .i64, k => k == 4 | .u16, k => k == 5 | .f64, k => k == 6
  | .uuid, k => k == 7 | .str, k => k == 8 | .nstr, k => k == 8 | .byt, k => k == 9 | .nbyt, k => k == 9
def nulW : Wt → Bool
  | .str => false | .byt => false | _ => true
def nulA (nul : Option Int) (ver : Int) (can : Bool) : Bool := !can || (match nul with | some m => decide (m ≤ ver) | none => false)
def matchS (ver : Int) (fx : Bool) : Sch → List (Fld × Nat) → Bool
  | .nil, l => l.isEmpty && !fx
  | .val c _ w r, l => if c.ok ver then (match l with | x :: l' => (x.1.kind != 11 && x.1.kind != 10) && kindW w x.1.kind && (nulW w || !canNull x.1 ver) && matchS ver fx r l' | [] => false) else matchS ver fx r l
  | .arrV c _ nul w r, l => if c.ok ver then (match l with | x :: l' => x.1.kind == 11 && kindW w x.1.of && nulA nul ver (canNull x.1 ver) && matchS ver fx r l' | [] => false) else matchS ver fx r l
  | .arrS c _ nul _ e r, l => if c.ok ver then (match l with | x :: l' => x.1.kind == 11 && x.1.of == 10 && nulA nul ver (canNull x.1 ver) && matchS ver fx e (acts ver x.1.sub) && matchS ver fx r l' | [] => false) else matchS ver fx r l
  | .opt c _ _ e r, l => if c.ok ver then (match l with | x :: l' => x.1.kind == 10 && decide (x.1.null ≥ 0) && matchS ver fx e (acts ver x.1.sub) && matchS ver fx r l' | [] => false) else matchS ver fx r l
  | .tags _ r, l => if fx then (match r with | .nil => l.isEmpty | _ => false) else matchS ver fx r l

def valV (w : Wt) (null : Bool) (t : Tr) : V :=
  match w with
  | .bool => .b (t.n % 2 != 0)
  | .i8 => .i (IntKind.i8.wrap t.n) | .e8 => .i (IntKind.i8.wrap t.n) | .i16 => .i (IntKind.i16.wrap t.n) | .u16 => .i (IntKind.u16.wrap t.n)
  | .i32 => .i (IntKind.i32.wrap t.n) | .i64 => .i (IntKind.i64.wrap t.n)
  | .f64 => .f (t.n % 18446744073709551616).toNat
  | .uuid => .u (uuidL t.s)
  | .str => .s (wholeL t.s)
  | .nstr => if null then .nsN else .ns (wholeL t.s)
  | .byt => .by_ (wholeL t.s)
  | .nbyt => if null then .byN else .by_ (wholeL t.s)
def tagV (t : Tr) : V := .tags ((unkL t.u).map fun x => (x.1, wholeL x.2))
def mkV (ver : Int) (fx : Bool) : Sch → List (Fld × Nat) → Tr → V
  | .nil, _, _ => .st (List.replicate 64 (.b false))
  | .val c k w r, l, t => if c.ok ver then (match l with | x :: l' => (mkV ver fx r l' t).put k (valV w (nullL x.1 ver (t.at x.2)) (t.at x.2)) | [] => mkV ver fx r [] t) else mkV ver fx r l t
  | .arrV c k nul w r, l, t => if c.ok ver then (match l with | x :: l' => (mkV ver fx r l' t).put k (if nullL x.1 ver (t.at x.2) then .arrN else .arr ((thingsL false (t.at x.2)).map (valV w false))) | [] => mkV ver fx r [] t) else mkV ver fx r l t
  | .arrS c k nul _ e r, l, t => if c.ok ver then (match l with | x :: l' => (mkV ver fx r l' t).put k (if nullL x.1 ver (t.at x.2) then .arrN else .arr ((thingsL false (t.at x.2)).map (mkV ver fx e (acts ver x.1.sub)))) | [] => mkV ver fx r [] t) else mkV ver fx r l t
  | .opt c k _ e r, l, t => if c.ok ver then (match l with | x :: l' => (mkV ver fx r l' t).put k (if nullL x.1 ver (t.at x.2) then .nstN else .nst (mkV ver fx e (acts ver x.1.sub) (t.at x.2))) | [] => mkV ver fx r [] t) else mkV ver fx r l t
  | .tags k r, l, t => (mkV ver fx r l t).put k (tagV t)
def smallB : Sch → Bool
  | .nil => true
  | .val _ k _ r => Nat.blt k 64 && smallB r
  | .arrV _ k _ _ r => Nat.blt k 64 && smallB r
  | .arrS _ k _ _ e r => Nat.blt k 64 && smallB e && smallB r
  | .opt _ k _ e r => Nat.blt k 64 && smallB e && smallB r
  | .tags k r => Nat.blt k 64 && smallB r

/-! ### Numbers -/
set_option maxRecDepth 10000 in
theorem byteAt_emod (x : Int) (m i : Nat) (h : i < m) : byteAt (x % (256 ^ m : Nat)) i = byteAt x i := by
  unfold byteAt
  congr 2
  obtain ⟨j, rfl⟩ : ∃ j, m = i + (j + 1) := ⟨m - i - 1, by omega⟩
  have hp : (0 : Int) < (256 ^ i : Nat) := by exact_mod_cast Nat.pow_pos (by omega)
  have e : ((256 ^ (i + (j + 1)) : Nat) : Int) = (256 ^ i : Nat) * (256 * (256 ^ j : Nat)) := by rw [Nat.pow_add, Nat.pow_succ, Int.natCast_mul, Int.natCast_mul, Int.mul_comm ((256 ^ j : Nat) : Int)]; rfl
  generalize ((256 ^ i : Nat) : Int) = a at *
  generalize ((256 ^ j : Nat) : Int) = b at *
  rw [e]
  have h1 := Int.emod_add_mul_ediv x (a * (256 * b))
  conv => rhs; rw [← h1]
  rw [Int.mul_assoc, Int.add_mul_ediv_left _ _ (by omega), Int.mul_assoc, Int.add_mul_emod_self_left]
theorem be_emod (x : Int) (m : Nat) : ∀ n, n ≤ m → be n (x % (256 ^ m : Nat)) = be n x
  | 0, _ => rfl
  | n + 1, h => by rw [be, be, be_emod x m n (by omega), byteAt_emod x m n (by omega)]
theorem be_wrap (k : IntKind) (n : Nat) (hb : k.bits = 8 * n) (x : Int) : be n (k.wrap x) = be n x := by
  rw [← be_emod (k.wrap x) n n (Nat.le_refl _), ← be_emod x n n (Nat.le_refl _), show ((256 ^ n : Nat) : Int) = 2 ^ k.bits by rw [hb, Int.natCast_pow, Int.pow_mul]; rfl, wrap_emod]

theorem wholeL_len (b : List UInt8) : (wholeL b).length ≤ 32767 := by unfold wholeL; simp; omega
theorem uuidL_len (s : List UInt8) : (uuidL s).length = 16 := by unfold uuidL; simp

theorem counted_str {fx : Bool} {s : List UInt8} (h : s.length ≤ 32767) : countedL fx false s.length 2 ++ s = encStr fx s := by
  unfold countedL encStr
  cases fx
  · rfl
  · simp only [if_true]; rw [word_eq (by omega)]; rfl
theorem counted_byt {fx : Bool} {s : List UInt8} (h : s.length ≤ 32767) : countedL fx false s.length 4 ++ s = encByt fx s := by
  unfold countedL encByt
  cases fx
  · rfl
  · simp only [if_true]; rw [word_eq (by omega)]; rfl
theorem counted_nul {fx : Bool} {n size : Nat} : countedL fx true n size = if fx then uvar 0 else be size (-1) := by
  unfold countedL
  cases fx
  · rfl
  · simp only [if_true]; rw [uvar_small (by omega)]; rfl

theorem valV_enc {pt : List Fld → Tr → List UInt8} {w : Wt} {kind : Int} {sub : List Fld} {null fx : Bool} {t : Tr} (hk : kindW w kind = true) (hn : null = true → nulW w = true) : encW fx w (valV w null t) = valL pt kind sub null fx t ∧ GoodW fx w (valV w null t) := by
  have hwl := wholeL_len t.s
  have okS : okStr fx (wholeL t.s) := by unfold okStr; split <;> omega
  have okY : okByt fx (wholeL t.s) := by unfold okByt; split <;> omega
  cases w <;> simp only [kindW, beq_iff_eq] at hk <;> subst hk
  case bool =>
    refine ⟨?_, trivial⟩
    simp only [valV, encW, valL, if_true, List.cons.injEq, and_true]
    rcases Int.emod_two_eq t.n with h | h <;> rw [h] <;> rfl
  case i8 => exact ⟨by simp only [valV, encW, valL]; simp [widthL, be_wrap .i8 1 rfl], wrap_in _ _⟩
  case e8 => exact ⟨by simp only [valV, encW, valL]; simp [widthL, be_wrap .i8 1 rfl], wrap_in _ _⟩
  case i16 => exact ⟨by simp only [valV, encW, valL]; simp [widthL, be_wrap .i16 2 rfl], wrap_in _ _⟩
  case u16 => exact ⟨by simp only [valV, encW, valL]; simp [widthL, be_wrap .u16 2 rfl], wrap_in _ _⟩
  case i32 => exact ⟨by simp only [valV, encW, valL]; simp [widthL, be_wrap .i32 4 rfl], wrap_in _ _⟩
  case i64 => exact ⟨by simp only [valV, encW, valL]; simp [widthL, be_wrap .i64 8 rfl], wrap_in _ _⟩
  case f64 =>
    refine ⟨?_, by show (t.n % 18446744073709551616).toNat < 18446744073709551616; omega⟩
    simp only [valV, encW, valL]
    simp only [show ((6 : Int) = 0) = False by decide, show ((6 : Int) = 7) = False by decide, show ((6 : Int) = 8) = False by decide, show ((6 : Int) = 9) = False by decide, show ((6 : Int) = 10) = False by decide, if_false, show widthL 6 = 8 from rfl]
    rw [show (((t.n % 18446744073709551616).toNat : Nat) : Int) = t.n % (256 ^ 8 : Nat) by have : ((256 ^ 8 : Nat) : Int) = 18446744073709551616 := by rfl
                                                                                           rw [this]; omega]
    exact be_emod _ _ _ (Nat.le_refl _)
  case uuid => exact ⟨by simp [valV, encW, valL], uuidL_len _⟩
  case str =>
    have h0 : null = false := by cases null with | false => rfl | true => exact absurd (hn rfl) (by decide)
    subst h0
    refine ⟨?_, okS⟩
    simp only [valV, encW, valL]
    simp [counted_str hwl]
  case nstr =>
    cases null with
    | false => exact ⟨by simp only [valV, encW, valL]; simp [counted_str hwl, encW], okS⟩
    | true => exact ⟨by simp only [valV, encW, valL]; simp [counted_nul, encW], trivial⟩
  case byt =>
    have h0 : null = false := by cases null with | false => rfl | true => exact absurd (hn rfl) (by decide)
    subst h0
    refine ⟨?_, okY⟩
    simp only [valV, encW, valL]
    simp [counted_byt hwl]
  case nbyt =>
    cases null with
    | false => exact ⟨by simp only [valV, encW, valL]; simp [counted_byt hwl, encW], okY⟩
    | true => exact ⟨by simp only [valV, encW, valL]; simp [counted_nul, encW], trivial⟩

/-! ### Tags -/
theorem insU_props {N : Nat} {t : Nat × List UInt8} (ht : t.1 < N) : ∀ {out : List (Nat × List UInt8)}, Rising out → (∀ y ∈ out, y.1 < N) → Rising (insU out t) ∧ (∀ y ∈ insU out t, y.1 < N) ∧ (insU out t).length ≤ out.length + 1 := by
  intro out hr hb
  unfold insU
  split
  · exact ⟨hr, hb, by omega⟩
  · rename_i hn
    simp only [List.any_eq_true, beq_iff_eq, not_exists, not_and] at hn
    refine ⟨insTag_rising hr fun y hy e => hn y hy e.symm, fun y hy => ?_, by rw [insTag_len]; omega⟩
    rcases insTag_mem.1 hy with rfl | hy
    · exact ht
    · exact hb y hy
theorem unk_fold {N : Nat} : ∀ (l : List (Nat × List UInt8)) {out : List (Nat × List UInt8)}, (∀ y ∈ l, y.1 < N) → Rising out → (∀ y ∈ out, y.1 < N) → Rising (l.foldl insU out) ∧ (∀ y ∈ l.foldl insU out, y.1 < N) ∧ (l.foldl insU out).length ≤ out.length + l.length
  | [], out, _, hr, hb => ⟨hr, hb, by simp⟩
  | t :: l, out, hl, hr, hb => by
    obtain ⟨h1, h2, h3⟩ := insU_props (N := N) (hl t (by simp)) hr hb
    obtain ⟨h4, h5, h6⟩ := unk_fold l (fun y hy => hl y (by simp [hy])) h1 h2
    exact ⟨h4, h5, by simp only [List.foldl_cons, List.length_cons] at *; omega⟩
theorem unkL_props (u : List (UInt32 × List UInt8)) : Rising (unkL u) ∧ (∀ y ∈ unkL u, y.1 < 4294967296) ∧ (unkL u).length ≤ 32767 := by
  obtain ⟨h1, h2, h3⟩ := unk_fold (N := 4294967296) ((u.take 32767).map fun x => (x.1.toNat, x.2)) (out := []) (fun y hy => by
    simp only [List.mem_map] at hy
    obtain ⟨a, _, rfl⟩ := hy
    exact a.1.toNat_lt) trivial (fun _ h => by cases h)
  refine ⟨h1, h2, ?_⟩
  rw [List.length_map, List.length_take, List.length_nil] at h3
  unfold unkL; omega
theorem rising_map {g : Nat × List UInt8 → Nat × List UInt8} (hg : ∀ x, (g x).1 = x.1) : ∀ {l : List (Nat × List UInt8)}, Rising l → Rising (l.map g)
  | [], _ => trivial
  | x :: l, h => ⟨fun y hy => by
      simp only [List.mem_map] at hy
      obtain ⟨z, hz, rfl⟩ := hy
      rw [hg, hg]; exact h.1 z hz, rising_map hg h.2⟩
theorem rising_nodup : ∀ {l : List (Nat × List UInt8)}, Rising l → (tagKeys l).Nodup
  | [], _ => List.nodup_nil
  | x :: l, h => by
    refine List.nodup_cons.2 ⟨fun hm => ?_, rising_nodup h.2⟩
    simp only [List.mem_map] at hm
    obtain ⟨y, hy, e⟩ := hm
    have := h.1 y hy
    omega
theorem tagV_enc (t : Tr) : encTags (tagV t) = tagsL t ∧ GoodT (tagV t).tagsOf := by
  obtain ⟨h1, h2, h3⟩ := unkL_props t.u
  have hr : Rising ((unkL t.u).map fun x => (x.1, wholeL x.2)) := rising_map (g := fun x => (x.1, wholeL x.2)) (fun _ => rfl) h1
  constructor
  · unfold encTags tagsL tagV V.tagsOf encEach
    simp only [List.length_map]
    rw [word_eq (by omega), sortTags_of_rising hr]
    congr 1
    rw [List.flatMap_map]
    refine congrArg (fun f => List.flatMap f (unkL t.u)) (funext fun x => ?_)
    simp only [encTag, tagL]
    rw [word_eq (by have := wholeL_len x.2; omega)]
  · refine ⟨rising_nodup hr, fun x hx => ?_, by simp only [tagV, V.tagsOf, List.length_map]; omega⟩
    simp only [tagV, V.tagsOf, List.mem_map] at hx
    obtain ⟨y, hy, rfl⟩ := hx
    exact ⟨h2 y hy, by have := wholeL_len y.2; show (wholeL y.2).length < _; omega⟩
end Go.Kx
