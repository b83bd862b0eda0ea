/- Library texts Fld Ops3 SpecA, joined. -/
import Derived.Test.YthcpchmmpnakaaaGreatDoorKxRun4
import Derived.Test.YthcpchmmpnakaaaGreatDoorKxRun7
import Derived.Test.YthcpchmmpnakaaaGreatDoorKxSortP
/- The fields of a message in memory; read out of a run over plain data. -/
namespace Go.Kx
open Go.RowKit
set_option linter.unusedSimpArgs false
set_option linter.unusedVariables false

def fldCells (f : Fld) (vs : Value) : List Value := [.int .i64 f.kind, .int .i64 f.lo, .int .i64 f.hi, .int .i64 f.null, .int .i64 f.tag, .int .i64 f.dflt, .int .i64 f.of, vs]
/-- A slice of fields; parts within parts no deeper than d; what holds them lies below B. -/
def FldsIs (w : World) (B : Nat) : Nat → List Fld → Value → Prop
  | 0, flds, v => flds = [] ∧ v = .slice none 0 0
  | d + 1, flds, v => (flds = [] ∧ v = .slice none 0 0) ∨ ∃ g c, v = .slice (some ⟨g, 0, none⟩) flds.length c ∧ flds.length ≤ c ∧ c < 1000000 ∧ g < B ∧
      ∀ (i : Nat) (f : Fld), flds[i]? = some f → ∃ vs, At w g (i * 8) (fldCells f vs) ∧ FldsIs w B d f.sub vs

theorem FldsIs.keep {w w' : World} {B : Nat} (hk : ∀ k, k < B → w'.heap[k]? = w.heap[k]?) : ∀ (d : Nat) {flds : List Fld} {v : Value}, FldsIs w B d flds v → FldsIs w' B d flds v
  | 0, _, _, h => h
  | d + 1, flds, v, h => by
    rcases h with h | ⟨g, c, h1, h2, h3, h4, h5⟩
    · exact .inl h
    · refine .inr ⟨g, c, h1, h2, h3, h4, fun i f hf => ?_⟩
      obtain ⟨vs, e1, e2⟩ := h5 i f hf
      exact ⟨vs, fun j x hx => (cell_keep (w := w) (w' := w') (hk _ h4)).trans (e1 j x hx), FldsIs.keep hk d e2⟩
theorem FldsIs.succ {w : World} {B : Nat} : ∀ (d : Nat) {flds : List Fld} {v : Value}, FldsIs w B d flds v → FldsIs w B (d + 1) flds v
  | 0, flds, v, h => .inl h
  | d + 1, flds, v, h => by
    rcases h with h | ⟨g, c, h1, h2, h3, h4, h5⟩
    · exact .inl h
    · refine .inr ⟨g, c, h1, h2, h3, h4, fun i f hf => ?_⟩
      obtain ⟨vs, e1, e2⟩ := h5 i f hf
      exact ⟨vs, e1, FldsIs.succ d e2⟩

def rdFlds (look : Nat → Option AB) : Nat → AC → Option (List Fld)
  | 0, .lit (.slice none 0 0) => some []
  | _ + 1, .lit (.slice none 0 0) => some []
  | d + 1, .sl b n (some c) => match look b with
    | some A => if Nat.ble n c && Nat.ble c 999999 then (List.range n).mapM fun i => match (A.cs.drop (i * 8)).take 8 with
        | [.lit (.int .i64 a0), .lit (.int .i64 a1), .lit (.int .i64 a2), .lit (.int .i64 a3), .lit (.int .i64 a4), .lit (.int .i64 a5), .lit (.int .i64 a6), x] => (rdFlds look d x).map fun sub => .mk a0 a1 a2 a3 a4 a5 a6 sub
        | _ => none
      else none
    | none => none
  | _, _ => none

theorem all2_eight {E : En} {a0 a1 a2 a3 a4 a5 a6 : Int} {x : AC} {us : List Value} (h : All2 (AC.is E) [.lit (.int .i64 a0), .lit (.int .i64 a1), .lit (.int .i64 a2), .lit (.int .i64 a3), .lit (.int .i64 a4), .lit (.int .i64 a5), .lit (.int .i64 a6), x] us) :
    ∃ v, x.is E v ∧ us = [.int .i64 a0, .int .i64 a1, .int .i64 a2, .int .i64 a3, .int .i64 a4, .int .i64 a5, .int .i64 a6, v] := by
  cases h with | cons h0 h => cases h with | cons h1 h => cases h with | cons h2 h => cases h with | cons h3 h => cases h with | cons h4 h => cases h with | cons h5 h => cases h with | cons h6 h => cases h with | cons h7 h => cases h with | nil =>
  exact ⟨_, h7, by rw [show _ = _ from h0, show _ = _ from h1, show _ = _ from h2, show _ = _ from h3, show _ = _ from h4, show _ = _ from h5, show _ = _ from h6]⟩

theorem rdFlds_sound {E : En} {look : Nat → Option AB} {w : World} {B : Nat} (hr : Rd E look w) (hB : ∀ i b p, look i = some b → E[i]? = some p → p.1 < B) : ∀ (d : Nat) {x : AC} {flds : List Fld} {v : Value}, rdFlds look d x = some flds → x.is E v → FldsIs w B d flds v := by
  intro d
  induction d with
  | zero =>
    intro x flds v h hx
    unfold rdFlds at h
    split at h
    · simp only [Option.some.injEq] at h; subst h; exact ⟨rfl, hx⟩
    · contradiction
    · contradiction
    · cases h
  | succ d ih =>
    intro x flds v h hx
    unfold rdFlds at h
    split at h
    · contradiction
    · simp only [Option.some.injEq] at h; subst h; exact .inl ⟨rfl, hx⟩
    · rename_i d' b n c hd
      obtain rfl : d = d' := by omega
      split at h
      · rename_i A hA
        split at h
        · rename_i hle
          simp only [Bool.and_eq_true, Nat.ble_eq] at hle
          obtain ⟨p, hp, hblk⟩ := hr b A hA
          obtain ⟨p', hp', hv⟩ := hx
          rw [hp] at hp'; cases hp'
          have hn := mapM_some_length h
          rw [List.length_range] at hn
          refine .inr ⟨p.1, c, by rw [hv, hn]; rfl, by omega, by omega, hB b A p hA hp, fun i f hf => ?_⟩
          have hi : i < n := by
            have := (List.getElem?_eq_some_iff.1 hf).1
            omega
          have hg := mapM_some_get h i i (by simp [hi])
          rw [hf] at hg
          split at hg
          · rename_i a0 a1 a2 a3 a4 a5 a6 y hcs
            obtain ⟨sub, hsub, rfl⟩ := Option.map_eq_some_iff.1 hg
            have hlen : i * 8 + 8 ≤ A.cs.length := by
              have := congrArg List.length hcs
              simp only [List.length_take, List.length_drop, List.length_cons, List.length_nil] at this
              omega
            obtain ⟨us, hall, hul, hrange⟩ := hblk.range (i * 8) 8 hlen
            rw [hcs] at hall
            obtain ⟨u, hu, rfl⟩ := all2_eight hall
            exact ⟨u, fun j z hz => hrange j z hz, ih hsub hu⟩
          · cases hg
        · cases h
      · cases h
    · cases h

theorem FldsIs.few {w : World} {B : Nat} : ∀ {d : Nat} {flds : List Fld} {v : Value}, FldsIs w B d flds v → flds.length < 1000000
  | 0, _, _, h => by rw [h.1]; simp
  | d + 1, _, _, h => by
    rcases h with h | ⟨g, c, h1, h2, h3, h4, h5⟩
    · rw [h.1]; simp
    · omega

/-- What a message's function answers: its fields, and the first flexible version. -/
def rdMsg (d : Nat) : AV × AH → Option (List Fld × Int)
  | (.agg [x, .lit (.int .i64 flex)], h) => (rdFlds h.get d x).map fun l => (l, flex)
  | _ => none
/-- A function that makes a message. -/
def MakesMsg (P : Program) (f : FuncId) (d : Nat) (flds : List Fld) (flex : Int) : Prop :=
  Callable P f ∧ ∀ w : World, Calls P f #[] w fun e w' => ∃ v, e = .returned (.agg #[v, .int .i64 flex]) ∧ FldsIs w' w'.heap.size d flds v ∧ Ch (fun _ => False) w w'
theorem makes_msg {P : Program} (hm : P.follows .mixedOrders = true) {n d : Nat} {f : FuncId} {flds : List Fld} {flex : Int} (h : (acall P n f [] ⟨0, []⟩).bind (rdMsg d) = some (flds, flex)) : MakesMsg P f d flds flex := by
  obtain ⟨⟨v, h'⟩, ha, hr⟩ := Option.bind_eq_some_iff.1 h
  obtain ⟨hcal, hk⟩ := acall_sound hm n f _ _ _ _ ha
  refine ⟨hcal, fun w => (hk w w [] [] (Hp.start w) .nil).mono fun e w' ⟨r, he, E', hE', hv, k'⟩ => ?_⟩
  unfold rdMsg at hr
  split at hr
  · rename_i x fl h1 heq
    cases heq
    obtain ⟨l, hl, hle⟩ := Option.map_eq_some_iff.1 hr
    simp only [Prod.mk.injEq] at hle
    obtain ⟨rfl, rfl⟩ := hle
    obtain ⟨vs, hvs, rfl⟩ := hv
    cases hvs with | cons g0 hvs => cases hvs with | cons g1 hvs => cases hvs with | nil =>
    refine ⟨_, ?_, rdFlds_sound k'.rd (fun i b p hb hp => (k'.low i b p hb hp).2) d hl g0, ⟨k'.os, k'.tape, k'.output, k'.size, fun k hk _ => k'.old k hk⟩⟩
    rw [he, show _ = _ from g1]
  · cases hr
end Go.Kx

/- More rules per operation: structs at an address, slices cut at their end. -/
namespace Go.Kx
open Go.RowKit
set_option linter.unusedSimpArgs false
set_option linter.unusedVariables false
section
variable {P : Program} {ρ : Operand → Value} {w : World} {K : Value → World → Prop} {d : Option Tmp} {ty : TypeId} {pos : String} {af : Array Edge} {g : Option (Nat × Bool)}

/-- Cells from an address on. -/
def AtA (w : World) (a : Addr) (cs : List Value) : Prop := ∀ j v, cs[j]? = some v → w.cell? (a.add j) = some v
theorem AtA.of_at {g o : Nat} {cs : List Value} (h : At w g o cs) : AtA w ⟨g, o, none⟩ cs := fun j v hj => by rw [Addr.add_mid]; exact h j v hj
theorem AtA.of_add {a : Addr} {k : Nat} {cs : List Value} (h : ∀ j v, cs[j]? = some v → w.cell? (a.add (k + j)) = some v) : AtA w (a.add k) cs := fun j v hj => by rw [Addr.add_add]; exact h j v hj

theorem OpK.loadA {x : Operand} {t : TypeId} {a : Addr} {n : Nat} {us : List Value} (ht : aggSize P t = some n) (hx : ρ x = .pointer (some a)) (hr : AtA w a us) (hl : us.length = n) (h : K (.agg us.toArray) w) : OpK P ρ ⟨d, .load t x, ty, pos, af, g⟩ w K := by
  unfold aggSize at ht
  have hrun := run_loadCells_list (P := P) w a us hr
  rw [hl] at hrun
  split at ht
  · rename_i fs hd
    obtain ⟨i, hi, hs⟩ := Option.map_eq_some_iff.1 ht
    simp only [OpK, execOp, hx, Instr.loadAt, Instr.sureAddr, Sem.run_bind, Sem.run_pure, Result.andThen_ok, loadVar, isAgg, run_underlying hd, if_true, sizeOf, typeInfo, run_program, hi, hs, hrun, After]
    exact h
  · rename_i a e hd
    obtain ⟨i, hi, hs⟩ := Option.map_eq_some_iff.1 ht
    simp only [OpK, execOp, hx, Instr.loadAt, Instr.sureAddr, Sem.run_bind, Sem.run_pure, Result.andThen_ok, loadVar, isAgg, run_underlying hd, if_true, sizeOf, typeInfo, run_program, hi, hs, hrun, After]
    exact h
  · cases ht

theorem OpK.sliceTo {x hi : Operand} {t e : TypeId} {s : Nat} {a : Option Addr} {n c j : Nat} {k : IntKind} (ht : P.underlying t = some (.slice e)) (hs : (P.info? e).map (·.size) = some s) (hx : ρ x = .slice a n c) (hj : ρ hi = .int k (j : Int)) (hn : j ≤ c)
    (h : K (.slice a j c) w) : OpK P ρ ⟨d, .slice t x none (some hi) none, ty, pos, af, g⟩ w K := by
  have he : P.underlying t = some (.slice (P.elem t)) := by rw [ht]; simp [Program.elem, ht]
  have hel : P.elem t = e := by simp [Program.elem, ht]
  obtain ⟨i, hi, hsz⟩ := Option.map_eq_some_iff.1 hs
  simp only [OpK, execOp, Option.map_some, Option.map_none, hx, hj, Instr.sliceAt, Sem.run_bind, run_underlying ht, Result.andThen_ok]
  rw [run_slice_h w t a n c he k (j : Int) (by omega) (by omega)]
  simp only [hel, sizeOf, typeInfo, run_program, Sem.run_bind, Result.andThen_ok, hi, Sem.run_pure, sliced, Int.toNat_natCast, hsz, Nat.zero_mul, Nat.sub_zero, After]
  have e0 : (if c = 0 then a else a.map fun p => p.add 0) = a := by
    split
    · rfl
    · cases a <;> simp [Addr.add_zero']
  simpa [e0] using h
end
end Go.Kx

/- Rules for walking the reference's functions: frames pinned at loops, boxes, structs stored, drawn reads. -/
namespace Go.Kx
open Go.RowKit
set_option linter.unusedSimpArgs false
set_option linter.unusedVariables false

/-- A frame whose slots of a list are known. -/
def pin : List (Nat × Value) → Fm → Fm
  | [], σ => σ
  | (k, v) :: l, σ => fun t => if t = k then v else pin l σ t
theorem pin_eq {σ : Fm} : ∀ {l : List (Nat × Value)}, (∀ x ∈ l, σ x.1 = x.2) → σ = pin l σ
  | [], _ => rfl
  | (k, v) :: l, h => by
    funext t
    simp only [pin]
    split
    · rename_i e; subst e; exact h (t, v) (by simp)
    · have := pin_eq (l := l) fun x hx => h x (by simp [hx])
      exact congrFun this t
theorem CW.pin {P : Program} {n : Nat} {c : Code} {σ : Fm} {w : World} {Q : Exit → Fm → World → Prop} (l : List (Nat × Value)) (h : ∀ x ∈ l, σ x.1 = x.2) (hc : ∀ σ', CWL P n (flat c) (Go.Kx.pin l σ') w Q) : CW P n c σ w Q := by
  refine CW.of_flat ?_
  rw [pin_eq h]
  exact hc σ
theorem all_pin {p : Nat × Value → Prop} {k : Nat} {v : Value} {l : List (Nat × Value)} (h : p (k, v)) (ht : ∀ x ∈ l, p x) : ∀ x ∈ (k, v) :: l, p x := by
  intro x hx
  rcases List.mem_cons.1 hx with rfl | hx
  · exact h
  · exact ht x hx

/-- A block in a later world. -/
theorem Blk.ch {w w' : World} {g : Nat} {t : TypeId} {cs : List Value} (h : Blk w g t cs) (hc : Ch (fun _ => False) w w') : Blk w' g t cs := h.keep (hc.block g h.lt fun h => h)
theorem Blk.ata {w : World} {g : Nat} {t : TypeId} {cs : List Value} (h : Blk w g t cs) : AtA w ⟨g, 0, none⟩ cs := fun j v hj => by
  rw [Addr.add_mid, Nat.zero_add, h.cell, hj]

section
variable {P : Program} {ρ : Operand → Value} {w : World} {K : Value → World → Prop} {d : Option Tmp} {ty : TypeId} {pos : String} {af : Array Edge} {gd : Option (Nat × Bool)}

theorem OpK.boxG {x : Operand} {t : TypeId} {cs : List Value} (hx : ρ x = .agg cs.toArray) (h : ∀ w1 g, Blk w1 g t cs → Ch (fun _ => False) w w1 → g = w.heap.size → w1.heap.size = w.heap.size + 1 → K (.pointer (some ⟨g, 0, none⟩)) w1) : OpK P ρ ⟨d, .box t x, ty, pos, af, gd⟩ w K := by
  refine OpK.box ?_
  rw [hx]
  exact h _ _ (Blk.new w t cs) (Ch.alloc _ w _) rfl (by simp)
theorem OpK.allocG {t : TypeId} {i : TypeInfo} {zs : List Value} (hi : P.info? t = some i) (hz : i.zero.map (·.cells) = some zs.toArray) (h : ∀ w1 g, Blk w1 g t zs → Ch (fun _ => False) w w1 → g = w.heap.size → w1.heap.size = w.heap.size + 1 → K (.pointer (some ⟨g, 0, none⟩)) w1) : OpK P ρ ⟨d, .alloc t, ty, pos, af, gd⟩ w K := by
  obtain ⟨z, hz1, hz2⟩ := Option.map_eq_some_iff.1 hz
  refine OpK.allocArr hi hz1 ?_
  rw [hz2]
  exact h _ _ (Blk.new w t zs) (Ch.alloc _ w _) rfl (by simp)
/-- A struct into a block of its own. -/
theorem OpK.storeG {x y : Operand} {t tb : TypeId} {g : Nat} {cs us : List Value} (hi : (P.info? t).map (·.size) = some us.length) (hx : ρ x = .pointer (some ⟨g, 0, none⟩)) (hy : ρ y = .agg us.toArray) (h1 : ∀ u ∈ us, u.oneCell' = true) (hb : Blk w g tb cs) (hl : cs.length = us.length)
    (h : ∀ w1, Blk w1 g tb us → Ch (fun k => k = g) w w1 → w1.heap.size = w.heap.size → K undef w1) : OpK P ρ ⟨d, .store t x y, ty, pos, af, gd⟩ w K := by
  refine OpK.storeAny (cur := cs) hi hx hy rfl h1 hb (by omega) ?_
  have hlt := hb.lt
  have e : splice cs us 0 = us := by unfold splice; simp [List.drop_of_length_le, hl]
  rw [e]
  have hset : ∀ k, (w.setRow g us.toArray).heap[k]? = if k = g then some (.cells us.toArray tb (0, 0)) else w.heap[k]? := fun k => by
    simp only [World.setRow, Array.getElem?_modify]
    by_cases hk : k = g
    · subst hk
      simp [show w.heap[k]? = _ from hb]
    · simp [hk, Ne.symm hk]
  refine h _ ?_ ⟨rfl, rfl, rfl, by simp [World.setRow], fun k _ hk => by rw [hset, if_neg hk]⟩ (by simp [World.setRow])
  unfold Blk
  rw [hset, if_pos rfl]

theorem OpK.minI {x y : Operand} {ats : Array TypeId} {k k' : IntKind} {a b : Int} (hx : ρ x = .int k a) (hy : ρ y = .int k' b) (h : K (.int k (if b < a then b else a)) w) : OpK P ρ ⟨d, .call ⟨.builtin .min, #[x, y], ats⟩, ty, pos, af, gd⟩ w K := by
  refine OpK.bi (v := .int k (if b < a then b else a)) (w' := w) (fun cs => ?_) h
  have e : (#[x, y] : Array Operand).map ρ = #[.int k a, .int k' b] := by simp [hx, hy]
  rw [e]
  simp only [builtin, Sem.run_bind, run_min_int2, Result.andThen_ok, Sem.run_pure]

theorem Yi.loadA {S : World → Prop} {x : Operand} {t : TypeId} {a : Addr} {n : Nat} {us : List Value} (ht : aggSize P t = some n) (hx : ρ x = .pointer (some a)) (hr : ∀ w, S w → AtA w a us) (hl : us.length = n) : Yi P S ρ ⟨d, .load t x, ty, pos, af, gd⟩ (.agg us.toArray) :=
  yi_of_OpK rfl fun w hw => OpK.loadA ht hx (hr w hw) hl ⟨rfl, rfl⟩
end

theorem u64_and127 (a : Nat) (h : a < 18446744073709551616) : bits .and .u64 (a : Int) 127 = ((a % 128 : Nat) : Int) := by
  have h1 := (bits_nat .u64 64 (Nat.le_refl _) (fun n h0 h1 => wrap_un .u64 rfl n h0 h1) a 127 h (by decide)).1
  have e : a &&& 127 = a % 128 := Nat.and_two_pow_sub_one_eq_mod a 7
  rw [e] at h1
  exact h1
theorem ux_or128 (a : Nat) (h : a < 128) : bits .or .u8 (a : Int) 128 = ((a + 128 : Nat) : Int) := or_parts .u8 rfl a 1 7 h (by show a + 1 * 2 ^ 7 < 2 ^ 8; omega)
theorem i64_and1 (n : Int) : (Value.int .u8 (IntKind.u8.wrap (bits .and .i64 n 1)) : Value) = bv (UInt8.ofNat (n % 2).toNat) := by
  have e : bits .and .i64 n 1 = ((n % 2).toNat : Nat) := by
    have h1 : (BitVec.ofInt 64 n &&& BitVec.ofInt 64 1).toNat = (n % 2).toNat := by
      rw [BitVec.toNat_and, BitVec.toNat_ofInt, BitVec.toNat_ofInt]
      have : ((1 : Int) % ((2 ^ 64 : Nat) : Int)).toNat = 1 := by decide
      rw [this, Nat.and_one_is_mod]
      have h2 : (0 : Int) ≤ n % ((2 ^ 64 : Nat) : Int) := Int.emod_nonneg _ (by decide)
      omega
    have h3 : bits .and .i64 n 1 = IntKind.i64.wrap ((BitVec.ofInt 64 n &&& BitVec.ofInt 64 1).toNat : Int) := rfl
    rw [h3, h1, i64_nat _ (by omega)]
  rw [e]
  exact byte_bv _ _ (by omega) (by omega)

/-- A new slice of one octet. -/
theorem new_one {P : Program} {e : TypeId} (he : U8 P e) (w : World) (b : UInt8) : Grew e w (.slice none 0 0) (w.alloc (.cells #[.int .u8 (b.toNat : Int)] e)) (.slice (some ⟨w.heap.size, 0, none⟩) 1 1) [b] := by
  have hb := Blk.new w e [Value.int .u8 (b.toNat : Int)]
  refine ⟨⟨rfl, .inr ⟨w.heap.size, 1, #[.int .u8 (b.toNat : Int)], rfl, Nat.zero_le _, hb, Nat.le_refl _, by simp [maxLen], rfl, rfl⟩⟩, Ch.alloc _ w _, fun k hk => ?_⟩
  simp only [Value.ownBlock, Option.some.injEq] at hk
  exact .inr (by omega)

theorem run_loadBlk {P : Program} {w : World} {t tb : TypeId} {g n : Nat} {cs : List Value} (ht : aggSize P t = some n) (hb : Blk w g tb cs) (hl : cs.length = n) : (loadVar t ⟨g, 0, none⟩).run P w = .ok (.agg cs.toArray) w := by
  unfold aggSize at ht
  split at ht
  · rename_i fs hd
    exact run_loadVar_mid w g 0 t cs _ (fun j v hv => by rw [Nat.zero_add, hb.cell]; exact hv) hd rfl (by rw [ht, hl])
  · rename_i a e hd
    exact run_loadVar_mid w g 0 t cs _ (fun j v hv => by rw [Nat.zero_add, hb.cell]; exact hv) hd rfl (by rw [ht, hl])
  · cases ht
theorem OpK.allocZ {P : Program} {ρ : Operand → Value} {w : World} {K : Value → World → Prop} {d : Option Tmp} {ty : TypeId} {pos : String} {af : Array Edge} {gd : Option (Nat × Bool)} {t : TypeId} (zs : List Value) (hz : ((P.info? t).bind (·.zero)).map (·.cells) = some zs.toArray) (h : ∀ w1 g, Blk w1 g t zs → Ch (fun _ => False) w w1 → g = w.heap.size → w1.heap.size = w.heap.size + 1 → K (.pointer (some ⟨g, 0, none⟩)) w1) : OpK P ρ ⟨d, .alloc t, ty, pos, af, gd⟩ w K := by
  obtain ⟨z, hz1, hz2⟩ := Option.map_eq_some_iff.1 hz
  obtain ⟨i, hi, hz3⟩ := Option.bind_eq_some_iff.1 hz1
  exact OpK.allocG hi (by rw [hz3]; simp [hz2]) h
theorem OpK.minN {P : Program} {ρ : Operand → Value} {w : World} {K : Value → World → Prop} {d : Option Tmp} {ty : TypeId} {pos : String} {af : Array Edge} {gd : Option (Nat × Bool)} {x y : Operand} {ats : Array TypeId} {k k' : IntKind} {a b : Nat} (hx : ρ x = .int k (a : Int)) (hy : ρ y = .int k' (b : Int)) (h : K (.int k ((min b a : Nat) : Int)) w) : OpK P ρ ⟨d, .call ⟨.builtin .min, #[x, y], ats⟩, ty, pos, af, gd⟩ w K := by
  refine OpK.minI hx hy ?_
  have e : (if (b : Int) < (a : Int) then (b : Int) else (a : Int)) = ((min b a : Nat) : Int) := by
    split
    · rw [Nat.min_eq_left (by omega)]
    · rw [Nat.min_eq_right (by omega)]
  rw [e]
  exact h
theorem SlIs.form {w : World} {B : Nat} {l : List UInt8} {v : Value} (h : SlIs w B l v) : v.oneCell' = true := by obtain ⟨a, c, rfl, _⟩ := h; rfl
theorem TgIs.form {w : World} {B : Nat} {u : List (UInt32 × List UInt8)} {v : Value} (h : TgIs w B u v) : v.oneCell' = true := by obtain ⟨a, c, rfl, _⟩ := h; rfl
theorem LsIs.form {w : World} {B : Nat} {l : List Tr} {cells : Nat → List Value} {v : Value} (h : LsIs w B l cells v) : v.oneCell' = true := by obtain ⟨a, c, rfl, _⟩ := h; rfl
theorem TrIs.one {w : World} {B : Nat} {t : Tr} {cs : List Value} (h : TrIs w B t cs) : (∀ u ∈ cs, u.oneCell' = true) ∧ cs.length = 5 := by
  cases h with
  | mk cells hn hs hl hc hu =>
    refine ⟨fun u hu' => ?_, rfl⟩
    simp only [List.mem_cons, List.not_mem_nil, or_false] at hu'
    rcases hu' with rfl | rfl | rfl | rfl | rfl
    · rfl
    · exact hs.form
    · rfl
    · exact hl.form
    · exact hu.form
theorem SlIs.nil (w : World) (B : Nat) : SlIs w B [] (.slice none 0 0) := ⟨none, 0, rfl, Nat.le_refl _, by simp [maxLen], fun _ => rfl, fun _ h => by cases h⟩
def zeroT : List Value := [.int .i64 0, .slice none 0 0, .bool false, .slice none 0 0, .slice none 0 0]
theorem TrIs.zero (w : World) (B : Nat) : TrIs w B .zero zeroT :=
  .mk (fun _ => []) (by rw [IntKind.wrap_i64]; omega) (SlIs.nil w B) ⟨none, 0, rfl, Nat.le_refl _, by simp [maxLen], fun _ => rfl, fun _ h => by cases h⟩ (fun i u h => by simp at h) ⟨none, 0, rfl, Nat.le_refl _, by simp [maxLen], fun _ => rfl, fun _ h => by cases h⟩
theorem SlIs.take {w : World} {B : Nat} {l : List UInt8} {a : Option Addr} {c : Nat} (h : SlIs w B l (.slice a l.length c)) (n : Nat) : SlIs w B (l.take n) (.slice a (min n l.length) c) := by
  obtain ⟨a', c', h1, h2, h3, h4, h5⟩ := h
  cases h1
  refine ⟨a, c, by rw [List.length_take], by rw [List.length_take]; omega, h3, fun e => by rw [h4 e]; simp, fun a' e => ⟨(h5 a' e).1.take n, fun hne => (h5 a' e).2 fun e2 => hne (by rw [e2]; simp)⟩⟩
theorem LsIs.take {w : World} {B : Nat} {l : List Tr} {cells : Nat → List Value} {a : Option Addr} {c : Nat} (h : LsIs w B l cells (.slice a l.length c)) (n : Nat) : LsIs w B (l.take n) cells (.slice a (min n l.length) c) := by
  obtain ⟨a', c', h1, h2, h3, h4, h5⟩ := h
  cases h1
  refine ⟨a, c, by rw [List.length_take], by rw [List.length_take]; omega, h3, fun e => by rw [h4 e]; simp, fun a' e => ⟨fun hne => (h5 a' e).1 fun e2 => hne (by rw [e2]; simp), fun i u hu => ?_⟩⟩
  rw [List.getElem?_take] at hu
  split at hu
  · exact (h5 a' e).2 i u hu
  · cases hu
theorem TgIs.take {w : World} {B : Nat} {u : List (UInt32 × List UInt8)} {a : Option Addr} {c : Nat} (h : TgIs w B u (.slice a u.length c)) (n : Nat) : TgIs w B (u.take n) (.slice a (min n u.length) c) := by
  obtain ⟨a', c', h1, h2, h3, h4, h5⟩ := h
  cases h1
  refine ⟨a, c, by rw [List.length_take], by rw [List.length_take]; omega, h3, fun e => by rw [h4 e]; simp, fun a' e => ⟨fun hne => (h5 a' e).1 fun e2 => hne (by rw [e2]; simp), fun i x hx => ?_⟩⟩
  rw [List.getElem?_take] at hx
  split at hx
  · exact (h5 a' e).2 i x hx
  · cases hx
theorem LsIs.tree {w : World} {B : Nat} {l : List Tr} {cells : Nat → List Value} {a : Addr} {n c : Nat} (h : LsIs w B l cells (.slice (some a) n c)) {i : Nat} {u : Tr} (hu : l[i]? = some u) : AtA w (a.add (i * 5)) (cells i) ∧ (cells i).length = 5 := by
  obtain ⟨a', c', h1, h2, h3, h4, h5⟩ := h
  cases h1
  exact ⟨AtA.of_add ((h5 a rfl).2 i u hu).2, ((h5 a rfl).2 i u hu).1⟩

theorem FldsIs.form {w : World} {B d : Nat} {flds : List Fld} {v : Value} (h : FldsIs w B d flds v) : ∃ a c, v = .slice a flds.length c ∧ ∀ (i : Nat) (f : Fld), flds[i]? = some f → ∃ g vs d', a = some ⟨g, 0, none⟩ ∧ g < B ∧ d = d' + 1 ∧ At w g (i * 8) (fldCells f vs) ∧ FldsIs w B d' f.sub vs := by
  cases d with
  | zero =>
    obtain ⟨rfl, rfl⟩ := h
    exact ⟨none, 0, rfl, fun i f hf => by simp at hf⟩
  | succ d =>
    rcases h with ⟨rfl, rfl⟩ | ⟨g, c, rfl, h2, h3, h4, h5⟩
    · exact ⟨none, 0, rfl, fun i f hf => by simp at hf⟩
    · exact ⟨_, c, rfl, fun i f hf => by obtain ⟨vs, e1, e2⟩ := h5 i f hf; exact ⟨g, vs, d, rfl, h4, rfl, e1, e2⟩⟩
theorem FldsIs.one {w : World} {B d : Nat} {flds : List Fld} {v : Value} (h : FldsIs w B d flds v) : v.oneCell' = true := by obtain ⟨a, c, rfl, _⟩ := h.form; rfl
theorem fldCells_one {f : Fld} {vs : Value} (h : vs.oneCell' = true) : ∀ u ∈ fldCells f vs, u.oneCell' = true := by
  intro u hu
  simp only [fldCells, List.mem_cons, List.not_mem_nil, or_false] at hu
  rcases hu with rfl | rfl | rfl | rfl | rfl | rfl | rfl | rfl
  all_goals first | rfl | exact h
theorem At.mid {w : World} {g o : Nat} {cs : List Value} (h : At w g o cs) : AtA w ((⟨g, 0, none⟩ : Addr).add o) cs := fun j v hj => by
  rw [Addr.add_add, Addr.add_mid, Nat.zero_add]; exact h j v hj
def zeroF : List Value := [.int .i64 0, .int .i64 0, .int .i64 0, .int .i64 0, .int .i64 0, .int .i64 0, .int .i64 0, .slice none 0 0]
theorem i64_succ (i : Nat) (h : i < 9223372036854775807) : IntKind.i64.wrap ((i : Int) + 1) = ((i + 1 : Nat) : Int) := by rw [IntKind.wrap_i64]; omega
end Go.Kx
