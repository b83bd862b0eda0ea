/- Library texts Tree4 Unk Run4, joined. -/
import Derived.Test.YthcpchmmpnakaaaGreatDoorKxTree3
import Derived.ChangeSlices
import Derived.WalkKit
import Derived.ProofKit
import Derived.OpenShut
import Derived.Test.YthcpchmmpnakaaaGreatDoorKxSaid
import Derived.Test.YthcpchmmpnakaaaGreatDoorKxRun3
/- A tree in memory: what the cells of an argument say; taken out of the reading of a row. -/
namespace Go.Kx
open Go.ChangeShapes Go.WideShapes Go.ChangeAt Go.RowKit
set_option linter.unusedSimpArgs false
set_option linter.unusedVariables false

/-- Octets of a slice; what holds them lies below B. -/
def SlIs (w : World) (B : Nat) (l : List UInt8) (v : Value) : Prop :=
  ∃ a c, v = .slice a l.length c ∧ l.length ≤ c ∧ c ≤ maxLen ∧ (a = none → l = []) ∧ ∀ a', a = some a' → Oct w a' l ∧ (l ≠ [] → a'.block < B)
/-- Tags of a slice. -/
def TgIs (w : World) (B : Nat) (u : List (UInt32 × List UInt8)) (v : Value) : Prop :=
  ∃ a c, v = .slice a u.length c ∧ u.length ≤ c ∧ c ≤ maxLen ∧ (a = none → u = []) ∧ ∀ a', a = some a' → (u ≠ [] → a'.block < B) ∧
    ∀ i x, u[i]? = some x → ∃ vv, w.cell? (a'.add (i * 2)) = some (.int .u32 (x.1.toNat : Int)) ∧ w.cell? (a'.add (i * 2 + 1)) = some vv ∧ SlIs w B x.2 vv
/-- Parts of a slice: five cells each. -/
def LsIs (w : World) (B : Nat) (l : List Tr) (cells : Nat → List Value) (v : Value) : Prop :=
  ∃ a c, v = .slice a l.length c ∧ l.length ≤ c ∧ c ≤ maxLen ∧ (a = none → l = []) ∧ ∀ a', a = some a' → (l ≠ [] → a'.block < B) ∧
    ∀ i u, l[i]? = some u → (cells i).length = 5 ∧ ∀ j x, (cells i)[j]? = some x → w.cell? (a'.add (i * 5 + j)) = some x
/-- The cells of a part. -/
inductive TrIs (w : World) (B : Nat) : Tr → List Value → Prop
  | mk {n : Int} {s : List UInt8} {null : Bool} {l : List Tr} {u : List (UInt32 × List UInt8)} {vs vl vu : Value} (cells : Nat → List Value) (hn : IntKind.i64.wrap n = n) (hs : SlIs w B s vs)
      (hl : LsIs w B l cells vl) (hc : ∀ i u, l[i]? = some u → TrIs w B u (cells i)) (hu : TgIs w B u vu) : TrIs w B (.mk n s null l u) [.int .i64 n, vs, .bool null, vl, vu]

theorem cell_keep {w w' : World} {a : Addr} (h : w'.heap[a.block]? = w.heap[a.block]?) : w'.cell? a = w.cell? a := by
  simp only [World.cell?, h]
theorem add_block (a : Addr) (i : Nat) : (a.add i).block = a.block := by unfold Addr.add; split <;> rfl
theorem nil_of_get {α : Type} {l : List α} {i : Nat} {x : α} (h : l[i]? = some x) : l ≠ [] := fun e => by rw [e] at h; simp at h
theorem Oct.keepB {w w' : World} {B : Nat} {a : Addr} {l : List UInt8} (h : Oct w a l) (hb : l ≠ [] → a.block < B) (hk : ∀ k, k < B → w'.heap[k]? = w.heap[k]?) : Oct w' a l := by
  intro i u hu
  exact (cell_keep (w := w) (w' := w') (by rw [add_block]; exact hk _ (hb (nil_of_get hu)))).trans (h i u hu)
theorem SlIs.keep {w w' : World} {B : Nat} {l : List UInt8} {v : Value} (h : SlIs w B l v) (hk : ∀ k, k < B → w'.heap[k]? = w.heap[k]?) : SlIs w' B l v := by
  obtain ⟨a, c, h1, h2, h3, h4, h5⟩ := h
  exact ⟨a, c, h1, h2, h3, h4, fun a' ha => ⟨(h5 a' ha).1.keepB (h5 a' ha).2 hk, (h5 a' ha).2⟩⟩
theorem TgIs.keep {w w' : World} {B : Nat} {u : List (UInt32 × List UInt8)} {v : Value} (h : TgIs w B u v) (hk : ∀ k, k < B → w'.heap[k]? = w.heap[k]?) : TgIs w' B u v := by
  obtain ⟨a, c, h1, h2, h3, h4, h5⟩ := h
  refine ⟨a, c, h1, h2, h3, h4, fun a' ha => ⟨(h5 a' ha).1, fun i x hx => ?_⟩⟩
  obtain ⟨g1, g2⟩ := h5 a' ha
  obtain ⟨vv, e1, e2, e3⟩ := g2 i x hx
  have hb := hk _ (g1 (nil_of_get hx))
  exact ⟨vv, (cell_keep (by rw [add_block]; exact hb)).trans e1, (cell_keep (by rw [add_block]; exact hb)).trans e2, e3.keep hk⟩
theorem LsIs.keep {w w' : World} {B : Nat} {l : List Tr} {cells : Nat → List Value} {v : Value} (h : LsIs w B l cells v) (hk : ∀ k, k < B → w'.heap[k]? = w.heap[k]?) : LsIs w' B l cells v := by
  obtain ⟨a, c, h1, h2, h3, h4, h5⟩ := h
  refine ⟨a, c, h1, h2, h3, h4, fun a' ha => ⟨(h5 a' ha).1, fun i u hu => ?_⟩⟩
  obtain ⟨g1, g2⟩ := h5 a' ha
  have hb := hk _ (g1 (nil_of_get hu))
  exact ⟨(g2 i u hu).1, fun j x hx => (cell_keep (by rw [add_block]; exact hb)).trans ((g2 i u hu).2 j x hx)⟩
theorem TrIs.keep {w w' : World} {B : Nat} (hk : ∀ k, k < B → w'.heap[k]? = w.heap[k]?) {t : Tr} {cs : List Value} (h : TrIs w B t cs) : TrIs w' B t cs := by
  induction h with
  | mk cells hn hs hl hc hu ih => exact .mk cells hn (hs.keep hk) (hl.keep hk) ih (hu.keep hk)

/-! ### Out of a reading -/
def structOf (P : Program) (t : TypeId) : Option (List (TypeId × Nat)) := match P.underlying t with | some (.struct fs) => some (fs.toList.map fun f => (f.type, f.offset)) | _ => none
/-- The types of a tree. -/
structure TreeTy (P : Program) (tT tI tS tB tL tU tG tK u8 : TypeId) : Prop where
  T : structOf P tT = some [(tI, 0), (tS, 1), (tB, 2), (tL, 3), (tU, 4)]
  G : structOf P tG = some [(tK, 0), (tS, 1)]
  I : P.underlying tI = some (.int .i64)
  S : P.underlying tS = some (.slice u8)
  O : P.underlying u8 = some (.int .u8)
  B : P.underlying tB = some .bool
  L : P.underlying tL = some (.slice tT)
  U : P.underlying tU = some (.slice tG)
  K : P.underlying tK = some (.int .u32)
  c8 : P.cellsOf u8 = 1
  cT : P.cellsOf tT = 5
  cG : P.cellsOf tG = 2
  cI : P.cellsOf tI = 1
  cS : P.cellsOf tS = 1
  cB : P.cellsOf tB = 1
  cL : P.cellsOf tL = 1
  cU : P.cellsOf tU = 1
  cK : P.cellsOf tK = 1

/-- How a bulk is counted. -/
structure BulkIs {H : Type} (bulk : DataW H → Nat) (all : List (DataW H) → Nat) : Prop where
  lit : ∀ k n, bulk (.lit (.int k n)) = 1
  bool : ∀ b, bulk (.lit (.bool b)) = 1
  nil : bulk .nil = 1
  slice : ∀ e r, bulk (.slice e r) = all e + all r + 1
  agg : ∀ p, bulk (.agg p) = all p + 1
  none : all [] = 0
  cons : ∀ d r, all (d :: r) = bulk d + all r

section
variable {H : Type} {enc : TypeId × Value → H} {P : Program} {w : World}

theorem struct_parts {t : TypeId} {fs : List (TypeId × Nat)} {fuel : Nat} {cs : List Value} {x : DataW H × List MemPlace} (hs : structOf P t = some fs) (h : DataW.trod enc P w 0 (fun _ => true) true fuel t cs = some x) :
    ∃ (xs : List (DataW H × List MemPlace)) (n : Nat), fuel = n + 1 ∧ x.1 = .agg (xs.map (·.1)) ∧ cs.length = P.cellsOf t ∧ xs.length = fs.length ∧
      ∀ (i : Nat) (f : TypeId × Nat), fs[i]? = some f → DataW.trod enc P w 0 (fun _ => true) true n f.1 ((cs.drop f.2).take (P.cellsOf f.1)) = xs[i]? := by
  unfold structOf at hs
  split at hs
  · rename_i ff hu
    simp only [Option.some.injEq] at hs
    subst hs
    obtain ⟨xs, n, h1, h2, h3, h4, h5⟩ := DataW.trod_struct hu h
    refine ⟨xs, n, h1, by rw [h2], h3, by simpa using h4, fun i f hf => ?_⟩
    simp only [List.getElem?_map, Option.map_eq_some_iff] at hf
    obtain ⟨f', hf', rfl⟩ := hf
    exact h5 i f' (by simpa using hf')
  · cases hs

theorem all_lits {bulk : DataW H → Nat} {all : List (DataW H) → Nat} (hb : BulkIs bulk all) (k : IntKind) : ∀ zs : List Int, all (ChangeShapes.lits k zs) = zs.length
  | [] => hb.none
  | z :: zs => by
    have := all_lits hb k zs
    simp only [ChangeShapes.lits, List.map_cons, hb.cons, hb.lit, List.length_cons] at *
    omega

theorem bytes_of {tS u8 : TypeId} {fuel : Nat} {v : Value} {x : DataW H × List MemPlace} {bulk : DataW H → Nat} {all : List (DataW H) → Nat} (hb : BulkIs bulk all) (hS : P.underlying tS = some (.slice u8)) (hO : P.underlying u8 = some (.int .u8)) (hc : P.cellsOf u8 = 1)
    (h : DataW.trod enc P w 0 (fun _ => true) true fuel tS [v] = some x) : ∃ l, SlIs w w.heap.size l v ∧ l.length + 1 ≤ bulk x.1 := by
  rcases open_ints hS hO hc h with ⟨hcs, hx⟩ | ⟨a, len, cap, zs, hcs, _, hl, hm, hz, hx, hcell, hwz⟩
  · simp only [List.cons.injEq, and_true] at hcs
    exact ⟨[], ⟨none, 0, by rw [hcs]; rfl, by simp, by simp [maxLen], fun _ => rfl, fun _ e => by cases e⟩, by rw [hx, hb.nil]; simp⟩
  · simp only [List.cons.injEq, and_true] at hcs
    simp only [if_true] at hz
    have key : ∀ i u, ((zs.take len).map fun z => UInt8.ofNat z.toNat)[i]? = some u → w.cell? (a.add i) = some (bv u) := fun i u hu => by
      simp only [List.getElem?_map, Option.map_eq_some_iff] at hu
      obtain ⟨z, hzi, rfl⟩ := hu
      have hi : i < zs.length ∧ zs[i]? = some z := by
        rw [List.getElem?_take] at hzi
        split at hzi
        · exact ⟨(List.getElem?_eq_some_iff.1 hzi).1, hzi⟩
        · cases hzi
      rw [hcell i hi.1]
      have hb : 0 ≤ z ∧ z ≤ 255 := by
        have h5 := hwz z (List.mem_of_getElem? hi.2)
        have e1 : IntKind.u8.min = 0 := rfl
        have e2 : IntKind.u8.max = 255 := rfl
        simpa [Lit.wf, e1, e2] using h5
      have e3 : zs.getD i 0 = z := by simp [List.getD, hi.2]
      rw [e3, bv]
      congr 2
      simp
      omega
    have hlen : ((zs.take len).map fun z => UInt8.ofNat z.toNat).length = len := by simp; omega
    refine ⟨(zs.take len).map fun z => UInt8.ofNat z.toNat, ⟨some a, cap, by rw [hcs, hlen], by omega, hm, (fun e => by cases e), fun a' e => ?_⟩, ?_⟩
    · cases e
      refine ⟨key, fun hne => ?_⟩
      cases hl2 : (zs.take len).map fun z => UInt8.ofNat z.toNat with
      | nil => exact absurd hl2 hne
      | cons u r =>
        have := key 0 u (by rw [hl2]; rfl)
        rw [Addr.add_zero'] at this
        exact World.block_lt_of_cell? _ _ this
    · rw [hx]
      simp only [hb.slice, all_lits hb]
      simp [Nat.min_def]; try omega

theorem tag_of {tT tI tS tB tL tU tG tK u8 : TypeId} (Y : TreeTy P tT tI tS tB tL tU tG tK u8) {fuel : Nat} {cs : List Value} {x : DataW H × List MemPlace} {bulk : DataW H → Nat} {all : List (DataW H) → Nat} (hb : BulkIs bulk all)
    (h : DataW.trod enc P w 0 (fun _ => true) true fuel tG cs = some x) : ∃ (k : UInt32) (l : List UInt8) (vv : Value), cs = [.int .u32 (k.toNat : Int), vv] ∧ SlIs w w.heap.size l vv ∧ 3 + l.length ≤ bulk x.1 := by
  obtain ⟨xs, n, _, hx, hlen, hxl, hf⟩ := struct_parts Y.G h
  rw [Y.cG] at hlen
  match cs, hlen with
  | [c0, c1], _ =>
    match xs, hxl with
    | [x0, x1], _ =>
      have h0 := hf 0 (tK, 0) rfl
      have h1 := hf 1 (tS, 1) rfl
      simp only [Y.cK, Y.cS, List.drop_zero, List.take_succ_cons, List.take_zero, List.drop_succ_cons, List.getElem?_cons_zero, List.getElem?_cons_succ] at h0 h1
      obtain ⟨k, hk, hkx, hkw⟩ := DataW.trod_int Y.K h0
      obtain ⟨l, hl, hlb⟩ := bytes_of hb Y.S Y.O Y.c8 h1
      simp only [List.cons.injEq, and_true] at hk
      have hr : 0 ≤ k ∧ k ≤ 4294967295 := by
        have e1 : IntKind.u32.min = 0 := rfl
        have e2 : IntKind.u32.max = 4294967295 := rfl
        simpa [Lit.wf, e1, e2] using hkw
      refine ⟨UInt32.ofNat k.toNat, l, c1, ?_, hl, ?_⟩
      · rw [hk]
        congr 2
        simp only [UInt32.toNat_ofNat']
        omega
      · rw [hx]
        simp only [List.map_cons, List.map_nil, hb.agg, hb.cons, hb.none, hkx, hb.lit]
        omega

theorem choose_list {α : Type} {p : Nat → α → Prop} : ∀ (n : Nat), (∀ i, i < n → ∃ x, p i x) → ∃ l : List α, l.length = n ∧ ∀ i x, l[i]? = some x → p i x
  | 0, _ => ⟨[], rfl, fun i x h => by simp at h⟩
  | n + 1, h => by
    obtain ⟨l, hl, hp⟩ := choose_list n fun i hi => h i (by omega)
    obtain ⟨x, hx⟩ := h n (by omega)
    refine ⟨l ++ [x], by simp [hl], fun i y hy => ?_⟩
    by_cases hi : i < l.length
    · rw [List.getElem?_append_left hi] at hy; exact hp i y hy
    · rw [List.getElem?_append_right (by omega)] at hy
      have h0 : i - l.length = 0 := by
        rcases Nat.eq_zero_or_pos (i - l.length) with h0 | h0
        · exact h0
        · rw [List.getElem?_eq_none (by simp; omega)] at hy; cases hy
      rw [h0] at hy
      simp only [List.getElem?_cons_zero, Option.some.injEq] at hy
      subst hy
      rw [show i = n by omega]
      exact hx

theorem sum_bound {α : Type} {bulk : DataW H → Nat} {all : List (DataW H) → Nat} (hb : BulkIs bulk all) {k : α → Nat} {tot : List α → Nat} (h0 : tot [] = 0) (h1 : ∀ x r, tot (x :: r) = k x + tot r) : ∀ {l : List α} {es : List (DataW H × List MemPlace)}, l.length = es.length → (∀ (i : Nat) (x : α) (y : DataW H × List MemPlace), l[i]? = some x → es[i]? = some y → k x ≤ bulk y.1) → tot l ≤ all (es.map (·.1))
  | [], [], _, _ => by rw [h0]; omega
  | x :: l, y :: es, hl, h => by
    have := sum_bound hb h0 h1 (l := l) (es := es) (by simpa using hl) fun i a b ha hb' => h (i + 1) a b (by simpa using ha) (by simpa using hb')
    have h2 := h 0 x y rfl rfl
    simp only [List.map_cons, hb.cons, h1]
    omega

theorem tags_of {tT tI tS tB tL tU tG tK u8 : TypeId} (Y : TreeTy P tT tI tS tB tL tU tG tK u8) {fuel : Nat} {v : Value} {x : DataW H × List MemPlace} {bulk : DataW H → Nat} {all : List (DataW H) → Nat} (hb : BulkIs bulk all)
    (h : DataW.trod enc P w 0 (fun _ => true) true fuel tU [v] = some x) : ∃ u, TgIs w w.heap.size u v ∧ twU u + 1 ≤ bulk x.1 := by
  rcases DataW.trod_slice Y.U h with ⟨hcs, hx⟩ | ⟨a, len, cap, elems, rest, n, _, hcs, hx, _, hl, hm, hel, he, _, _⟩
  · simp only [List.cons.injEq, and_true] at hcs
    exact ⟨[], ⟨none, 0, by rw [hcs]; rfl, by simp, by simp [maxLen], fun _ => rfl, fun _ e => by cases e⟩, by rw [hx, hb.nil]; simp [twU]⟩
  · simp only [List.cons.injEq, and_true] at hcs
    obtain ⟨u, hul, hu⟩ := choose_list (p := fun i (x : UInt32 × List UInt8) => (∃ vv, w.cell? (a.add (i * 2)) = some (.int .u32 (x.1.toNat : Int)) ∧ w.cell? (a.add (i * 2 + 1)) = some vv ∧ SlIs w w.heap.size x.2 vv) ∧ ∀ y, elems[i]? = some y → 3 + x.2.length ≤ bulk y.1) len fun i hi => by
      have h1 := he i hi
      obtain ⟨y, hy⟩ : ∃ y, elems[i]? = some y := ⟨_, List.getElem?_eq_getElem (by omega)⟩
      rw [hy, Y.cG] at h1
      obtain ⟨cs', hc1, hc2⟩ := Option.bind_eq_some_iff.1 h1
      obtain ⟨k, l, vv, hcs', hsl, hbk⟩ := tag_of Y hb hc2
      obtain ⟨_, _, hcell⟩ := World.cells?_some hc1
      have c0 := hcell 0 (by omega)
      have c1 := hcell 1 (by omega)
      rw [hcs'] at c0 c1
      rw [Addr.add_zero'] at c0
      rw [Addr.add_add] at c1
      exact ⟨(k, l), ⟨vv, c0, c1, hsl⟩, fun y' hy' => by rw [hy] at hy'; cases hy'; exact hbk⟩
    refine ⟨u, ⟨some a, cap, by rw [hcs, hul], by omega, hm, (fun e => by cases e), fun a' e => ?_⟩, ?_⟩
    · cases e
      refine ⟨fun hne => ?_, fun i x hx => (hu i x hx).1⟩
      cases u with
      | nil => exact absurd rfl hne
      | cons z r =>
        obtain ⟨⟨vv, c0, _⟩, _⟩ := hu 0 z rfl
        simp only [Nat.zero_mul, Addr.add_zero'] at c0
        exact World.block_lt_of_cell? _ _ c0
    · have hs := sum_bound hb (k := fun x : UInt32 × List UInt8 => 3 + x.2.length) (tot := twU) rfl (fun _ _ => rfl) (l := u) (es := elems) (by omega) fun i x y hx hy => (hu i x hx).2 y hy
      rw [hx]
      simp only [hb.slice]
      omega

theorem tree_of {tT tI tS tB tL tU tG tK u8 : TypeId} (Y : TreeTy P tT tI tS tB tL tU tG tK u8) {bulk : DataW H → Nat} {all : List (DataW H) → Nat} (hb : BulkIs bulk all) : ∀ (fuel : Nat) {cs : List Value} {x : DataW H × List MemPlace},
    DataW.trod enc P w 0 (fun _ => true) true fuel tT cs = some x → ∃ t, TrIs w w.heap.size t cs ∧ t.tw ≤ bulk x.1 := by
  intro fuel
  induction fuel using Nat.strongRecOn with
  | ind fuel ih =>
    intro cs x h
    obtain ⟨xs, n, hfn, hx, hlen, hxl, hf⟩ := struct_parts Y.T h
    rw [Y.cT] at hlen
    match cs, hlen with
    | [c0, c1, c2, c3, c4], _ =>
      match xs, hxl with
      | [x0, x1, x2, x3, x4], _ =>
        have h0 := hf 0 (tI, 0) rfl
        have h1 := hf 1 (tS, 1) rfl
        have h2 := hf 2 (tB, 2) rfl
        have h3 := hf 3 (tL, 3) rfl
        have h4 := hf 4 (tU, 4) rfl
        simp only [Y.cI, Y.cS, Y.cB, Y.cL, Y.cU, List.drop_zero, List.take_succ_cons, List.take_zero, List.drop_succ_cons, List.getElem?_cons_zero, List.getElem?_cons_succ] at h0 h1 h2 h3 h4
        obtain ⟨N, hN, hNx, hNw⟩ := DataW.trod_int Y.I h0
        obtain ⟨s, hs, hsb⟩ := bytes_of hb Y.S Y.O Y.c8 h1
        obtain ⟨b, hB, hBx⟩ := DataW.trod_bool Y.B h2
        obtain ⟨u, hu, hub⟩ := tags_of Y hb h4
        simp only [List.cons.injEq, and_true] at hN hB
        subst hN hB
        have hwrap : IntKind.i64.wrap N = N := by
          have e1 : IntKind.i64.min = -9223372036854775808 := rfl
          have e2 : IntKind.i64.max = 9223372036854775807 := rfl
          have : -9223372036854775808 ≤ N ∧ N ≤ 9223372036854775807 := by simpa [Lit.wf, e1, e2] using hNw
          rw [IntKind.wrap_i64]; omega
        have hxall : bulk x.1 = 1 + bulk x1.1 + 1 + bulk x3.1 + bulk x4.1 + 1 := by
          rw [hx]
          simp only [List.map_cons, List.map_nil, hb.agg, hb.cons, hb.none, hNx, hBx, hb.lit, hb.bool]
          omega
        rcases DataW.trod_slice Y.L h3 with ⟨hcs, hx3⟩ | ⟨a, len, cap, elems, rest, n', hn', hcs, hx3, _, hl, hm, hel, he, _, _⟩
        · simp only [List.cons.injEq, and_true] at hcs
          subst hcs
          refine ⟨.mk N s b [] u, .mk (fun _ => []) hwrap hs ⟨none, 0, rfl, by simp, by simp [maxLen], fun _ => rfl, fun _ e => by cases e⟩ (fun i u h => by simp at h) hu, ?_⟩
          rw [hx3, hb.nil] at hxall
          simp only [Tr.tw, twL]
          omega
        · simp only [List.cons.injEq, and_true] at hcs
          subst hcs
          obtain ⟨ys, hyl, hy⟩ := choose_list (p := fun i (y : Tr × List Value) => (∀ j x, y.2[j]? = some x → w.cell? (a.add (i * 5 + j)) = some x) ∧ y.2.length = 5 ∧ TrIs w w.heap.size y.1 y.2 ∧ ∀ e, elems[i]? = some e → y.1.tw ≤ bulk e.1) len fun i hi => by
            have h1 := he i hi
            obtain ⟨y, hy⟩ : ∃ y, elems[i]? = some y := ⟨_, List.getElem?_eq_getElem (by omega)⟩
            rw [hy, Y.cT] at h1
            obtain ⟨cs', hc1, hc2⟩ := Option.bind_eq_some_iff.1 h1
            obtain ⟨t, ht, htb⟩ := ih n' (by omega) hc2
            obtain ⟨_, hcl, hcell⟩ := World.cells?_some hc1
            refine ⟨(t, cs'), fun j x hx => ?_, hcl, ht, fun e he' => by rw [hy] at he'; cases he'; exact htb⟩
            have hj : j < 5 := by
              have := (List.getElem?_eq_some_iff.1 hx).1
              simp only [hcl] at this
              exact this
            have := hcell j hj
            rw [Addr.add_add] at this
            rw [this]; exact hx
          refine ⟨.mk N s b (ys.map (·.1)) u, .mk (fun i => (ys.getD i (.zero, [])).2) hwrap hs ⟨some a, cap, by simp [hyl], by simp; omega, hm, (fun e => by cases e), fun a' e => ?_⟩ (fun i u hu => ?_) hu, ?_⟩
          · cases e
            refine ⟨fun hne => ?_, fun i u hu => ?_⟩
            · cases ys with
              | nil => exact absurd rfl hne
              | cons z r =>
                obtain ⟨g1, g2, _⟩ := hy 0 z rfl
                obtain ⟨q0, hq0⟩ : ∃ q, z.2[0]? = some q := ⟨_, List.getElem?_eq_getElem (by omega)⟩
                have := g1 0 q0 hq0
                simp only [Nat.zero_mul, Nat.add_zero, Addr.add_zero'] at this
                exact World.block_lt_of_cell? _ _ this
            · simp only [List.getElem?_map, Option.map_eq_some_iff] at hu
              obtain ⟨z, hz, rfl⟩ := hu
              obtain ⟨g1, g2, _⟩ := hy i z hz
              have e : ys.getD i (.zero, []) = z := by simp [List.getD, hz]
              simp only [e]
              exact ⟨g2, g1⟩
          · simp only [List.getElem?_map, Option.map_eq_some_iff] at hu
            obtain ⟨z, hz, rfl⟩ := hu
            obtain ⟨_, _, g3, _⟩ := hy i z hz
            have e : ys.getD i (.zero, []) = z := by simp [List.getD, hz]
            simp only [e]
            exact g3
          · have hs2 := sum_bound hb (k := fun x : Tr => x.tw) (tot := twL) rfl (fun _ _ => rfl) (l := ys.map (·.1)) (es := elems) (by simp; omega) fun i t e ht' he' => by
              simp only [List.getElem?_map, Option.map_eq_some_iff] at ht'
              obtain ⟨z, hz, rfl⟩ := ht'
              exact (hy i z hz).2.2.2 e he'
            have h3b : bulk x3.1 = all (elems.map (·.1)) + all (rest.map (·.1)) + 1 := by rw [hx3]; exact hb.slice _ _
            simp only [Tr.tw]
            omega
end
end Go.Kx

/- Unknown tags in order: where a tag is put. Plain laws. -/
namespace Go.Kx
open Go.RowKit
set_option linter.unusedSimpArgs false
set_option linter.unusedVariables false

/-- How many at the front have a lower number. -/
def posOf {β : Type} (k : Nat) : List (Nat × β) → Nat
  | [] => 0
  | y :: l => if y.1 < k then posOf k l + 1 else 0
theorem posOf_le {β : Type} (k : Nat) : ∀ l : List (Nat × β), posOf k l ≤ l.length
  | [] => by simp [posOf]
  | y :: l => by have := posOf_le k l; simp only [posOf]; split <;> simp <;> omega
theorem posOf_low {β : Type} {k : Nat} : ∀ {l : List (Nat × β)} {i : Nat} {y : Nat × β}, i < posOf k l → l[i]? = some y → y.1 < k
  | [], i, y, h, _ => by simp [posOf] at h
  | z :: l, i, y, h, e => by
    simp only [posOf] at h
    split at h
    · cases i with
      | zero => simp only [List.getElem?_cons_zero, Option.some.injEq] at e; subst e; assumption
      | succ i => simp only [List.getElem?_cons_succ] at e; exact posOf_low (l := l) (i := i) (by omega) e
    · omega
theorem posOf_high {β : Type} {k : Nat} : ∀ {l : List (Nat × β)} {y : Nat × β}, l[posOf k l]? = some y → ¬ y.1 < k
  | [], y, h => by simp at h
  | z :: l, y, h => by
    simp only [posOf] at h
    split at h
    · simp only [List.getElem?_cons_succ] at h; exact posOf_high h
    · simp only [List.getElem?_cons_zero, Option.some.injEq] at h; subst h; assumption
/-- The place that a walk finds is the place. -/
theorem posOf_eq {β : Type} {k i : Nat} {l : List (Nat × β)} (h : ∀ j y, j < i → l[j]? = some y → y.1 < k) (hi : i ≤ l.length) (h2 : ∀ y, l[i]? = some y → ¬ y.1 < k) : i = posOf k l := by
  rcases Nat.lt_trichotomy i (posOf k l) with hlt | rfl | hgt
  · have hl := posOf_le k l
    obtain ⟨y, hy⟩ : ∃ y, l[i]? = some y := ⟨_, List.getElem?_eq_getElem (by omega)⟩
    exact absurd (posOf_low hlt hy) (h2 y hy)
  · rfl
  · obtain ⟨y, hy⟩ : ∃ y, l[posOf k l]? = some y := ⟨_, List.getElem?_eq_getElem (by omega)⟩
    exact absurd (h _ y hgt hy) (posOf_high hy)
theorem insTag_at {x : Nat × List UInt8} : ∀ {l : List (Nat × List UInt8)}, (∀ y ∈ l, y.1 ≠ x.1) → insTag x l = l.take (posOf x.1 l) ++ x :: l.drop (posOf x.1 l)
  | [], _ => rfl
  | y :: l, h => by
    have h1 := h y (by simp)
    simp only [insTag, posOf]
    by_cases hlt : x.1 < y.1
    · rw [if_pos hlt, if_neg (by omega)]; rfl
    · rw [if_neg hlt, if_pos (by omega), insTag_at fun z hz => h z (by simp [hz])]; rfl
theorem any_at {k : Nat} : ∀ {l : List (Nat × List UInt8)}, Rising l → (l.any (fun y => y.1 == k) = true ↔ ∃ y, l[posOf k l]? = some y ∧ y.1 = k)
  | [], _ => by simp
  | z :: l, h => by
    simp only [List.any_cons, Bool.or_eq_true, beq_iff_eq, posOf]
    by_cases hlt : z.1 < k
    · rw [if_pos hlt, any_at h.2]
      simp only [List.getElem?_cons_succ]
      constructor
      · rintro (h1 | h1)
        · omega
        · exact h1
      · exact .inr
    · rw [if_neg hlt]
      simp only [List.getElem?_cons_zero, Option.some.injEq]
      constructor
      · rintro (h1 | h1)
        · exact ⟨z, rfl, h1⟩
        · simp only [List.any_eq_true, beq_iff_eq] at h1
          obtain ⟨y, hy, hk⟩ := h1
          have := h.1 y hy
          omega
      · rintro ⟨y, rfl, h1⟩
        exact .inl h1
theorem insU_at {x : Nat × List UInt8} {l : List (Nat × List UInt8)} (h : Rising l) : insU l x = if (∃ y, l[posOf x.1 l]? = some y ∧ y.1 = x.1) then l else l.take (posOf x.1 l) ++ x :: l.drop (posOf x.1 l) := by
  unfold insU
  by_cases ha : l.any (fun y => y.1 == x.1) = true
  · rw [if_pos ha, if_pos ((any_at h).1 ha)]
  · rw [if_neg ha, if_neg (fun hh => ha ((any_at h).2 hh))]
    simp only [List.any_eq_true, beq_iff_eq, not_exists, not_and] at ha
    exact insTag_at fun y hy => ha y hy

/-- Tags in memory, beside what they say. -/
def TgR (w : World) (B : Nat) (x : Nat × Value) (y : Nat × List UInt8) : Prop := x.1 = y.1 ∧ SlIs w B y.2 x.2
theorem All2.at1 {α β : Type} {R : α → β → Prop} : ∀ {l : List α} {m : List β}, All2 R l m → ∀ {i : Nat} {a : α}, l[i]? = some a → ∃ b, m[i]? = some b ∧ R a b
  | _, _, .nil, i, a, h => by simp at h
  | _, _, .cons h t, 0, a, e => by simp only [List.getElem?_cons_zero, Option.some.injEq] at e; subst e; exact ⟨_, rfl, h⟩
  | _, _, .cons h t, i + 1, a, e => by simp only [List.getElem?_cons_succ] at e ⊢; exact All2.at1 t e
theorem All2.at2 {α β : Type} {R : α → β → Prop} : ∀ {l : List α} {m : List β}, All2 R l m → ∀ {i : Nat} {b : β}, m[i]? = some b → ∃ a, l[i]? = some a ∧ R a b
  | _, _, .nil, i, a, h => by simp at h
  | _, _, .cons h t, 0, a, e => by simp only [List.getElem?_cons_zero, Option.some.injEq] at e; subst e; exact ⟨_, rfl, h⟩
  | _, _, .cons h t, i + 1, a, e => by simp only [List.getElem?_cons_succ] at e ⊢; exact All2.at2 t e
theorem All2.app {α β : Type} {R : α → β → Prop} : ∀ {l l' : List α} {m m' : List β}, All2 R l m → All2 R l' m' → All2 R (l ++ l') (m ++ m')
  | _, _, _, _, .nil, h => h
  | _, _, _, _, .cons h t, k => .cons h (All2.app t k)
theorem All2.size {α β : Type} {R : α → β → Prop} : ∀ {l : List α} {m : List β}, All2 R l m → l.length = m.length
  | _, _, .nil => rfl
  | _, _, .cons _ t => by simp [All2.size t]
theorem posOf_two {w : World} {B k : Nat} : ∀ {us : List (Nat × Value)} {out : List (Nat × List UInt8)}, All2 (TgR w B) us out → posOf k us = posOf k out
  | _, _, .nil => rfl
  | _, _, .cons h t => by simp only [posOf]; rw [h.1, posOf_two t]

/-- One more tag: what the walk leaves. -/
theorem ins_two {w : World} {B k p : Nat} {v : Value} {bs : List UInt8} {us : List (Nat × Value)} {out : List (Nat × List UInt8)} (h : All2 (TgR w B) us out) (hr : Rising out) (hv : SlIs w B bs v) (hp : p = posOf k us) :
    ((∃ y, us[p]? = some y ∧ y.1 = k) → All2 (TgR w B) us (insU out (k, bs))) ∧ ((¬ ∃ y, us[p]? = some y ∧ y.1 = k) → All2 (TgR w B) (us.take p ++ (k, v) :: us.drop p) (insU out (k, bs))) := by
  have hp2 : p = posOf k out := hp.trans (posOf_two h)
  rw [insU_at hr]
  constructor
  · rintro ⟨y, hy, hk⟩
    obtain ⟨z, hz, hzy⟩ := h.at1 hy
    rw [if_pos ⟨z, by rw [← hp2]; exact hz, by rw [← hzy.1]; exact hk⟩]
    exact h
  · intro hn
    rw [if_neg, ← hp2]
    · exact (h.take p).app (.cons ⟨rfl, hv⟩ (h.drop p))
    · rintro ⟨y, hy, hk⟩
      rw [← hp2] at hy
      obtain ⟨z, hz, hzy⟩ := h.at2 hy
      exact hn ⟨z, hz, by rw [hzy.1]; exact hk⟩

/-- Places move up by one: what stands while k goes down. -/
theorem shift_step {α : Type} {us : List α} {k : Nat} {y x : α} (hk : 0 < k) (hl : k ≤ us.length) (hx : us[k - 1]? = some x) : (us.take k ++ y :: us.drop k).set k x = us.take (k - 1) ++ x :: us.drop (k - 1) := by
  obtain ⟨j, rfl⟩ : ∃ j, k = j + 1 := ⟨k - 1, by omega⟩
  rw [Nat.add_sub_cancel] at hx ⊢
  rw [List.set_append_right _ _ (by rw [List.length_take]; omega), show j + 1 - (us.take (j + 1)).length = 0 by rw [List.length_take]; omega, List.set_cons_zero]
  rw [List.take_add_one, hx, List.drop_eq_getElem?_toList_append (i := j), hx]
  simp
theorem shift_end {α : Type} {us : List α} {i : Nat} {y x : α} (hl : i ≤ us.length) : (us.take i ++ y :: us.drop i).set i x = us.take i ++ x :: us.drop i := by
  rw [List.set_append_right _ _ (by rw [List.length_take]; omega), show i - (us.take i).length = 0 by rw [List.length_take]; omega, List.set_cons_zero]
theorem shift_get {α : Type} {us : List α} {k : Nat} {y : α} (hk : 0 < k) (hl : k ≤ us.length) : (us.take k ++ y :: us.drop k)[k - 1]? = us[k - 1]? := by
  rw [List.getElem?_append_left (by simp; omega), List.getElem?_take, if_pos (by omega)]
end Go.Kx

/- One operation over plain data: what it makes of the blocks; that the machine does the same. -/
namespace Go.Kx
open Go.RowKit
set_option linter.unusedSimpArgs false
set_option linter.unusedVariables false

/-- What is appended: none; or the things of a slice. -/
def news (P : Program) (h : AH) (u e : TypeId) (size : Nat) : AV → Option (Nat × List AC)
  | .c (.lit (.slice none 0 0)) => match P.underlying u with | some (.slice _) => some (0, []) | _ => none
  | .c (.lit (.string ⟨⟨[]⟩⟩)) => match P.underlying u with | some .string => some (0, []) | _ => none
  | .c (.sl b n _) => match P.underlying u, h.get b with
    | some (.slice e'), some B => if e = e' && Nat.ble (n * size) B.cs.length && (B.cs.take (n * size)).all AC.one then some (n, B.cs.take (n * size)) else none
    | _, _ => none
  | _ => none

def rowOk (size n : Nat) : Option Nat → Option Nat → Bool
  | some s, none => Nat.beq s size
  | none, some c => Nat.beq c n
  | _, _ => false

/-- What is appended to: nothing; or a block's things, all of them. -/
def base (h : AH) (e : TypeId) (size : Nat) : AV → Option (Option Nat × Nat × List AC)
  | .c (.lit (.slice none 0 0)) => some (none, 0, [])
  | .c (.sl b n c) => match h.get b with
    | some B => if B.e = e && Nat.beq B.cs.length (n * size) && rowOk size n B.row c then some (some b, n, B.cs) else none
    | none => none
  | _ => none

def aappend (P : Program) (h : AH) (t u : TypeId) (v x : AV) : Option (AV × AH) :=
  match P.underlying t with
  | some (.slice e) => match P.info? e with
    | some i => match i.zero with
      | some z =>
        match news P h u e i.size x, base h e i.size v with
        | some (m, cs), some (b, n, bs) =>
          if Nat.beq m 0 then some (v, h)
          else if Nat.beq u t && Nat.beq z.cells.size i.size && Nat.blt 0 i.size && Nat.ble ((n + m) * (i.bytes + 1)) 1048576 then
            match b with
            | none => some (.c (.sl h.n m none), h.push ⟨e, some i.size, cs⟩)
            | some b => some (.c (.sl h.n (n + m) none), (h.put b none).push ⟨e, some i.size, bs ++ cs⟩)
          else none
        | _, _ => none
      | none => none
    | none => none
  | _ => none

/-- A block is given up, another takes its cells: the row that append hands back. -/
theorem Hp.grow {w0 : World} {E : En} {h : AH} {w w' : World} (k : Hp w0 E h w) (dead : Option Nat) {B : AB} {p : Nat × Nat} {row : Option Nat} (hd : ∀ b, dead = some b → b < h.n ∧ ∃ q B0, E[b]? = some q ∧ h.get b = some B0 ∧ row = some q.1) (hd0 : dead = none → row = none)
    (hg : w.grownBy w' row) (hB : BlkIs E w' p B) (hp : (∃ b q, dead = some b ∧ E[b]? = some q ∧ p.1 = q.1) ∨ p.1 = w.heap.size) (hpl : p.1 < w'.heap.size) :
    Hp w0 (E ++ [p]) ((match dead with | some b => h.put b none | none => h).push B) w' := by
  -- the heap with the old block given up
  have hE : Le E (E ++ [p]) := Le.snoc _ _
  generalize hh : (match dead with | some b => h.put b none | none => h) = h1
  have hn1 : h1.n = h.n := by subst hh; cases dead <;> rfl
  have hl1 : h1.l.length = h1.n := by
    subst hh
    cases dead with
    | none => exact k.len
    | some b => simp [AH.put, k.len]
  have hget : ∀ i c, h1.get i = some c → h.get i = some c ∧ dead ≠ some i := by
    intro i c hc
    subst hh
    cases dead with
    | none => exact ⟨hc, by simp⟩
    | some b =>
      rw [show (match some b with | some b => h.put b none | none => h) = h.put b none from rfl, AH.get_put h k.len b (hd b rfl).1] at hc
      split at hc
      · cases hc
      · rename_i hi; exact ⟨hc, fun e => hi (by cases e; rfl)⟩
  have hrow : ∀ g, row = some g → ∃ b q B0, dead = some b ∧ E[b]? = some q ∧ h.get b = some B0 ∧ q.1 = g := by
    intro g hgr
    cases hdd : dead with
    | none => rw [hd0 hdd] at hgr; cases hgr
    | some b =>
      obtain ⟨_, q, B0, hq, hb0, hr⟩ := hd b hdd
      rw [hr] at hgr; cases hgr
      exact ⟨b, q, B0, rfl, hq, hb0, rfl⟩
  have keepb : ∀ i c q, h1.get i = some c → E[i]? = some q → w'.heap[q.1]? = w.heap[q.1]? := by
    intro i c q hc hq
    obtain ⟨hc', hne⟩ := hget i c hc
    refine hg.block _ (k.low i c q hc' hq).2 fun e => ?_
    obtain ⟨b, r, B0, hb, hr, hb0, he⟩ := hrow q.1 e.symm
    exact hne (by rw [hb, k.inj b i B0 c r q hb0 hc' hr hq he])
  have hG := AH.get_push h1 hl1 B
  refine ⟨hg.os.trans k.os, hg.tape.trans k.tape, hg.output.trans k.output, Nat.le_trans k.size hg.size, fun j hj => ?_, by simp [AH.push, k.en, hn1], by simp [AH.push, hl1], ?_, ?_, ?_⟩
  · refine (hg.block j (Nat.lt_of_lt_of_le hj k.size) fun e => ?_).trans (k.old j hj)
    obtain ⟨b, q, B0, _, hq, hb0, he⟩ := hrow j e.symm
    have := (k.low b B0 q hb0 hq).1
    omega
  · intro i c hc
    rw [hG] at hc
    by_cases hi : i = h1.n
    · rw [if_pos hi] at hc
      cases hc
      refine ⟨p, by rw [hi, hn1, ← k.en]; exact get_snoc _ _, hB.keep hE rfl⟩
    · rw [if_neg hi] at hc
      obtain ⟨q, hq, hC⟩ := k.rd i c (hget i c hc).1
      exact ⟨q, hE _ _ hq, hC.keep hE (keepb i c q hc hq)⟩
  · intro i c q hc hq
    rw [hG] at hc
    by_cases hi : i = h1.n
    · rw [hi, hn1, ← k.en, get_snoc] at hq
      cases hq
      refine ⟨?_, hpl⟩
      rcases hp with ⟨b, q, hb, hq, he⟩ | he
      · obtain ⟨_, q', B0, hq', hb0, _⟩ := hd b hb
        rw [hq] at hq'; cases hq'
        rw [he]; exact (k.low b B0 q hb0 hq).1
      · rw [he]; exact k.size
    · rw [if_neg hi] at hc
      have hc' := (hget i c hc).1
      have hlt : i < E.length := by rw [k.en]; exact AH.get_lt hc'
      rw [List.getElem?_append_left hlt] at hq
      have := k.low i c q hc' hq
      exact ⟨this.1, Nat.lt_of_lt_of_le this.2 hg.size⟩
  · -- no two in one place
    have new_ne : ∀ j d q, h1.get j = some d → E[j]? = some q → p.1 ≠ q.1 := by
      intro j d q hd' hq he
      obtain ⟨hd1, hne⟩ := hget j d hd'
      rcases hp with ⟨b, r, hb, hr, he'⟩ | he'
      · obtain ⟨_, q', B0, hq', hb0, _⟩ := hd b hb
        rw [hr] at hq'; cases hq'
        exact hne (by rw [hb, k.inj b j B0 d r q hb0 hd1 hr hq (he'.symm.trans he)])
      · have := (k.low j d q hd1 hq).2
        omega
    intro i j c d q r hc hd' hq hr he
    rw [hG] at hc hd'
    by_cases hi : i = h1.n
    · by_cases hj : j = h1.n
      · rw [hi, hj]
      · rw [hi, hn1, ← k.en, get_snoc] at hq; cases hq
        rw [if_neg hj] at hd'
        have hlt : j < E.length := by rw [k.en]; exact AH.get_lt (hget j d hd').1
        rw [List.getElem?_append_left hlt] at hr
        exact absurd he (new_ne j d r hd' hr)
    · rw [if_neg hi] at hc
      have hlt : i < E.length := by rw [k.en]; exact AH.get_lt (hget i c hc).1
      rw [List.getElem?_append_left hlt] at hq
      by_cases hj : j = h1.n
      · rw [hj, hn1, ← k.en, get_snoc] at hr; cases hr
        exact absurd he.symm (new_ne i c q hc hq)
      · rw [if_neg hj] at hd'
        have hlt' : j < E.length := by rw [k.en]; exact AH.get_lt (hget j d hd').1
        rw [List.getElem?_append_left hlt'] at hr
        exact k.inj i j c d q r (hget i c hc).1 (hget j d hd').1 hq hr he


theorem one_all {E : En} : ∀ {l : List AC} {us : List Value}, All2 (AC.is E) l us → l.all AC.one = true → ∀ u ∈ us, u.oneCell' = true := by
  intro l us h
  induction h with
  | nil => intro _ u hu; cases hu
  | cons h1 _ ih =>
    intro ho u hu
    simp only [List.all_cons, Bool.and_eq_true] at ho
    rcases List.mem_cons.1 hu with rfl | hu
    · exact h1.one ho.1
    · exact ih ho.2 u hu

/-- What is appended, in memory. -/
theorem news_mem {P : Program} {E : En} {h : AH} {w0 w : World} {u e : TypeId} {size m : Nat} {x : AV} {vx : Value} {cs : List AC} (k : Hp w0 E h w) (hx : x.is E vx) (hn : news P h u e size x = some (m, cs)) :
    (m = 0 ∧ (P.underlying u = some .string ∨ ∃ e', P.underlying u = some (.slice e')) ∧ (vx = .slice none 0 0 ∨ (∃ a c, vx = .slice (some a) 0 c) ∨ vx = .string ⟨#[]⟩)) ∨
    (∃ a c us, vx = .slice (some a) m c ∧ All2 (AC.is E) cs us ∧ us.length = m * size ∧ (∀ j v, us[j]? = some v → w.cell? (a.add j) = some v) ∧ (∀ v ∈ us, v.oneCell' = true)) ∧
      (P.underlying u = some .string ∨ ∃ e', P.underlying u = some (.slice e')) := by
  unfold news at hn
  split at hn
  · split at hn
    · rename_i e' hu
      cases hn
      exact .inl ⟨rfl, .inr ⟨_, hu⟩, .inl (is_lit hx)⟩
    · cases hn
  · split at hn
    · rename_i hu
      cases hn
      exact .inl ⟨rfl, .inl hu, .inr (.inr (is_lit hx))⟩
    · cases hn
  · rename_i b n c
    split at hn
    · rename_i e' B hu hB
      split at hn
      · rename_i hc
        simp only [Bool.and_eq_true] at hc
        cases hn
        obtain ⟨p, hp, hv⟩ := is_sl hx
        obtain ⟨q, hq, hb⟩ := k.rd b B hB
        rw [hp] at hq; cases hq
        obtain ⟨us, h1, h2, h3⟩ := hb.range 0 (m * size) (by have := Nat.le_of_ble_eq_true hc.1.2; omega)
        rw [List.drop_zero] at h1
        refine .inr ⟨⟨⟨p.1, 0, none⟩, _, us, hv, h1, h2, fun j v hj => ?_, one_all h1 hc.2⟩, .inr ⟨_, hu⟩⟩
        have := h3 j v hj
        rw [Addr.add_mid]; exact this
      · cases hn
    · cases hn
  · cases hn

theorem base_mem {E : En} {h : AH} {w0 w : World} {e : TypeId} {size n : Nat} {v : AV} {vv : Value} {b : Option Nat} {bs : List AC} (k : Hp w0 E h w) (hs : 0 < size) (hsm : n ≤ 1048576) (hv : v.is E vv) (hb : base h e size v = some (b, n, bs)) :
    (b = none ∧ n = 0 ∧ bs = [] ∧ vv = .slice none 0 0) ∨
    ∃ j p c us B, b = some j ∧ h.get j = some B ∧ E[j]? = some p ∧ vv = .slice (some ⟨p.1, 0, none⟩) n c ∧ n ≤ c ∧ All2 (AC.is E) bs us ∧ w.ownsRow 0 e size vv n us := by
  unfold base at hb
  split at hb
  · cases hb; exact .inl ⟨rfl, rfl, rfl, is_lit hv⟩
  · rename_i j n' c
    split at hb
    · rename_i B hB
      split at hb
      · rename_i hc
        simp only [Bool.and_eq_true, beq_iff_eq, decide_eq_true_eq] at hc
        cases hb
        obtain ⟨p, hp, hvv⟩ := is_sl hv
        obtain ⟨q, hq, vs, tl, h1, h2, h3⟩ := k.rd j B hB
        rw [hp] at hq; cases hq
        have hl : B.cs.length = vs.length := h1.len
        have hlen := Nat.eq_of_beq_eq_true hc.1.2
        rw [hl] at hlen
        have hcc := hc.2
        cases hr : B.row with
        | none =>
          rw [hr] at hcc h3
          cases c with
          | none => simp [rowOk] at hcc
          | some c' =>
            have hcn := Nat.eq_of_beq_eq_true hcc
            simp only at h3
            subst h3
            subst hcn
            rw [List.append_nil] at h2
            refine .inr ⟨j, p, _, vs, B, rfl, hB, hp, hvv, Nat.le_refl _, h1, hlen, .inr ⟨p.1, _, vs.toArray, hvv, Nat.zero_le _, by rw [h2, hc.1.1], Nat.le_refl _, by simp only [maxLen, Option.getD_some]; omega, by simpa using hlen, ?_⟩⟩
            rw [← hlen]; simp
        | some s =>
          rw [hr] at hcc h3
          cases c with
          | some c' => simp [rowOk] at hcc
          | none =>
            have hse := Nat.eq_of_beq_eq_true hcc
            subst hse
            obtain ⟨h31, h32, h33⟩ := h3
            have hnc : n ≤ p.2 := by
              have : n * s ≤ p.2 * s := by rw [← hlen, ← h33, List.length_append]; omega
              exact Nat.le_of_mul_le_mul_right this h31
            refine .inr ⟨j, p, _, vs, B, rfl, hB, hp, hvv, hnc, h1, hlen, .inr ⟨p.1, _, (vs ++ tl).toArray, hvv, Nat.zero_le _, by rw [h2, hc.1.1], hnc, h32, by simpa using h33, ?_⟩⟩
            rw [← hlen]; simp
      · cases hb
    · cases hb
  · cases hb

theorem aappend_sound {P : Program} {E : En} {h h' : AH} {w0 w : World} {t u ty : TypeId} {v x r : AV} {vv vx : Value} (k : Hp w0 E h w) (hv : v.is E vv) (hx : x.is E vx) (ha : aappend P h t u v x = some (r, h')) :
    ∃ rv w', (Builtin.append_ #[t, u] ty #[vv, vx]).run P w = .ok rv w' ∧ ∃ E', Le E E' ∧ r.is E' rv ∧ Hp w0 E' h' w' := by
  unfold aappend at ha
  split at ha
  · rename_i e ht
    split at ha
    · rename_i i hi
      split at ha
      · rename_i z hz
        split at ha
        · rename_i m cs b n bs hn hb
          split at ha
          · rename_i hm
            have hm := Nat.eq_of_beq_eq_true hm
            cases ha
            refine ⟨vv, w, ?_, E, Le.refl E, hv, k⟩
            -- nothing is appended
            have hvv : vv = .slice none 0 0 ∨ ∃ a n c, vv = .slice (some a) n c ∧ n ≤ c := by
              unfold base at hb
              split at hb
              · exact .inl (is_lit hv)
              · rename_i j n' c
                split at hb
                · rename_i B hB
                  split at hb
                  · rename_i hc
                    simp only [Bool.and_eq_true, beq_iff_eq, decide_eq_true_eq] at hc
                    obtain ⟨p, hp, hvv⟩ := is_sl hv
                    obtain ⟨q, hq, vs, tl, h1, h2, h3⟩ := k.rd j B hB
                    rw [hp] at hq; cases hq
                    have hl : B.cs.length = vs.length := h1.len
                    have hlen := Nat.eq_of_beq_eq_true hc.1.2
                    rw [hl] at hlen
                    refine .inr ⟨_, _, _, hvv, ?_⟩
                    have hcc := hc.2
                    cases hr : B.row with
                    | none =>
                      rw [hr] at hcc
                      cases c with
                      | none => simp [rowOk] at hcc
                      | some c' => have := Nat.eq_of_beq_eq_true hcc; simp; omega
                    | some s =>
                      rw [hr] at hcc h3
                      cases c with
                      | some c' => simp [rowOk] at hcc
                      | none =>
                        have hse := Nat.eq_of_beq_eq_true hcc
                        obtain ⟨h31, h32, h33⟩ := h3
                        rw [← hse] at hlen
                        have : n' * s ≤ p.2 * s := by rw [← hlen, ← h33, List.length_append]; omega
                        exact Nat.le_of_mul_le_mul_right this h31
                  · cases hb
                · cases hb
              · cases hb
            rcases news_mem k hx hn with ⟨_, hu, hxx⟩ | ⟨⟨a, c, us, hvx, _⟩, hu⟩
            · exact run_append_none ht (by rw [hi]; rfl) hu hvv hxx
            · exact run_append_none ht (by rw [hi]; rfl) hu hvv (.inr (.inl ⟨a, c, by rw [hvx, hm]⟩))
          · rename_i hm
            have hm0 : m ≠ 0 := fun e => hm (by rw [e]; rfl)
            split at ha
            · rename_i hc
              simp only [Bool.and_eq_true] at hc
              obtain ⟨⟨⟨hut, hzs⟩, hs0⟩, hbig⟩ := hc
              have hut := Nat.eq_of_beq_eq_true hut
              have hzs := Nat.eq_of_beq_eq_true hzs
              have hs0 : 0 < i.size := by simpa [Nat.blt_eq] using hs0
              have hbig := Nat.le_of_ble_eq_true hbig
              have hnm : n + m ≤ 1048576 := by
                have : (n + m) * 1 ≤ (n + m) * (i.bytes + 1) := Nat.mul_le_mul_left _ (by omega)
                omega
              have hby : (n + m) * i.bytes ≤ 1048576 := by
                have : (n + m) * i.bytes ≤ (n + m) * (i.bytes + 1) := Nat.mul_le_mul_left _ (by omega)
                omega
              subst hut
              rcases news_mem k hx hn with ⟨h0, _⟩ | ⟨⟨a, c, us, hvx, hus, hlen, hcells, hone⟩, _⟩
              · exact absurd h0 hm0
              · have own : ∃ xs, All2 (AC.is E) bs xs ∧ w.ownsRow 0 e i.size vv n xs := by
                  rcases base_mem k hs0 (by omega) hv hb with ⟨_, rfl, rfl, rfl⟩ | ⟨j, p, c', xs, B, _, _, _, _, _, hxs, hown⟩
                  · exact ⟨[], .nil, World.ownsRow_nil w 0 e i.size⟩
                  · exact ⟨xs, hxs, hown⟩
                obtain ⟨xs, hxs, hown⟩ := own
                obtain ⟨v', w', hr, hown', hgr, hnil, hat⟩ := run_append_own_at (P := P) w 0 u ty e i z i.size i.bytes ht hi hz rfl rfl hzs hs0 vv n xs hown a m c us hlen hcells hone (by simp only [maxLen]; omega) (by omega) (Nat.zero_le _)
                rw [hvx]
                refine ⟨v', w', hr, ?_⟩
                rcases hown'.2 with ⟨_, h0⟩ | ⟨g, cap, cur, hv', _, hg, hnc, hcm, hcs, htake⟩
                · omega
                · have hBlk : BlkIs E w' (g, cap) ⟨e, some i.size, bs ++ cs⟩ := by
                    refine ⟨xs ++ us, cur.toList.drop ((n + m) * i.size), hxs.append hus, ?_, hs0, hcm, ?_⟩
                    · rw [hg, ← htake, List.take_append_drop]
                    · rw [← htake, List.take_append_drop]; simpa using hcs
                  have hgl : g < w'.heap.size := (Array.getElem?_eq_some_iff.1 hg).1
                  have hown2 : some g = vv.ownBlock ∨ g = w.heap.size := by
                    rw [hv'] at hat
                    simp only [Value.ownBlock, Option.some.injEq] at hat
                    rcases hat with h | h
                    · exact .inl h
                    · exact .inr h
                  rcases base_mem k hs0 (by omega) hv hb with ⟨rfl, rfl, rfl, rfl⟩ | ⟨j, p, c', xs', B, rfl, hB, hp, hvv, _, _, _⟩
                  · simp only at ha
                    cases ha
                    refine ⟨E ++ [(g, cap)], Le.snoc _ _, ⟨(g, cap), by rw [← k.en]; exact get_snoc _ _, by rw [hv', Nat.zero_add]; rfl⟩, ?_⟩
                    exact Hp.grow k none (row := none) (fun _ h => by cases h) (fun _ => rfl) hgr (by simpa using hBlk) (.inr (by rcases hown2 with h | h; cases h; exact h)) hgl
                  · simp only at ha
                    cases ha
                    refine ⟨E ++ [(g, cap)], Le.snoc _ _, ⟨(g, cap), ?_, by rw [hv']; rfl⟩, ?_⟩
                    · rw [← k.en]; exact get_snoc _ _
                    · refine Hp.grow k (some j) (row := vv.ownBlock) (fun b hb' => ?_) (fun h => by cases h) hgr hBlk ?_ hgl
                      · cases hb'; exact ⟨AH.get_lt hB, p, B, hp, hB, by rw [hvv]; rfl⟩
                      · rcases hown2 with h | h
                        · rw [hvv] at h; simp only [Value.ownBlock, Option.some.injEq] at h; exact .inl ⟨j, p, rfl, hp, h⟩
                        · exact .inr h
            · cases ha
        · cases ha
      · cases ha
    · cases ha
  · cases ha

end Go.Kx
