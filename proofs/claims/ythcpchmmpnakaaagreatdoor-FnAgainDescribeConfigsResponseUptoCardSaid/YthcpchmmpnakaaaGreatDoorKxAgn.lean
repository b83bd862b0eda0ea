/- Library texts SpecB SpecC Agn, joined. -/
import Derived.Test.YthcpchmmpnakaaaGreatDoorKxSpecA
/- Rules for the walk of unknown tags: loops with what they end in, and a slice of tags that grows. -/
namespace Go.Kx
open Go.RowKit
set_option linter.unusedSimpArgs false
set_option linter.unusedVariables false

/-- A loop that ends in J, by the way out of its own block alone. -/
theorem CWL.loopJ {P : Program} {n id : Nat} {c : Code} {cs : List Code} {σ : Fm} {w : World} {Q : Exit → Fm → World → Prop} (I : Nat → Fm → World → Prop) (J : Fm → World → Prop) (m : Nat) (h0 : I m σ w)
    (hb : ∀ m σ w, I m σ w → CW P n c σ w (Then (fun σ' w' => ∃ m', m' < m ∧ I m' σ' w') (InBlock id (Then J fun _ _ _ => False)))) (hn : ∀ σ w, J σ w → CWL P n cs σ w Q) : CWL P n (.block id (.loop c) :: cs) σ w Q := by
  refine CWL.cons (CW.mono (CW.block (Q := Then J fun _ _ _ => False) (CW.loop I m h0 hb)) fun e σ' w' h => ?_)
  cases e with
  | normal => exact hn σ' w' h
  | _ => exact h.elim

theorem HW.step {P : Program} {ops : Array Oper} {S : World → Prop} {i : Nat} {l : List (Nat × Bool)} {o : Oper} {σ : Fm} {w : World} {K : Fm → World → Prop} {v : Value} (hS : S w) (ho : ops[i]? = some o) (hw : wantedB o ops σ = true) (h : OpK P (ev σ) o w fun u w' => u = v ∧ w' = w) (hk : HW P ops S l (upd σ o.dst v) w K) : HW P ops S ((i, false) :: l) σ w K := by
  refine HW.next ho hw (After.mono h fun u w' ⟨e1, e2⟩ => ?_)
  subst e1 e2
  exact ⟨hS, hk⟩

def tgCells (us : List (Nat × Value)) : List Value := us.flatMap fun x => [.int .u32 (x.1 : Int), x.2]
theorem tgCells_len (us : List (Nat × Value)) : (tgCells us).length = us.length * 2 := by
  induction us with
  | nil => rfl
  | cons x us ih => simp only [tgCells, List.flatMap_cons, List.length_append, List.length_cons, List.length_nil] at *; omega
theorem tgCells_get : ∀ {us : List (Nat × Value)} {i : Nat} {x : Nat × Value}, us[i]? = some x → ∀ j u, [Value.int .u32 (x.1 : Int), x.2][j]? = some u → (tgCells us)[i * 2 + j]? = some u
  | [], i, x, h, _, _, _ => by simp at h
  | y :: us, 0, x, h, j, u, hj => by
    simp only [List.getElem?_cons_zero, Option.some.injEq] at h
    subst h
    simp only [Nat.zero_mul, Nat.zero_add, tgCells, List.flatMap_cons]
    rw [List.getElem?_append_left (List.getElem?_eq_some_iff.1 hj).1]
    exact hj
  | y :: us, i + 1, x, h, j, u, hj => by
    simp only [List.getElem?_cons_succ] at h
    have := tgCells_get h j u hj
    simp only [tgCells, List.flatMap_cons] at this ⊢
    rw [List.getElem?_append_right (by simp; omega)]
    simp only [List.length_cons, List.length_nil]
    rw [show (i + 1) * 2 + j - (0 + 1 + 1) = i * 2 + j by omega]
    exact this
theorem tgCells_app (a b : List (Nat × Value)) : tgCells (a ++ b) = tgCells a ++ tgCells b := by simp [tgCells]
theorem tgCells_set (us : List (Nat × Value)) (k : Nat) (x : Nat × Value) (hk : k < us.length) : splice (tgCells us) [.int .u32 (x.1 : Int), x.2] (k * 2) = tgCells (us.set k x) := by
  have e1 : us = us.take k ++ us[k] :: us.drop (k + 1) := by simp
  have e2 : us.set k x = us.take k ++ x :: us.drop (k + 1) := by rw [List.set_eq_take_append_cons_drop, if_pos hk]
  have hl : (tgCells (us.take k)).length = k * 2 := by rw [tgCells_len, List.length_take]; omega
  rw [e2, tgCells_app]
  conv => lhs; rw [e1, tgCells_app]
  generalize tgCells (us.take k) = A at hl ⊢
  simp only [tgCells, List.flatMap_cons]
  generalize List.flatMap (fun x : Nat × Value => [Value.int IntKind.u32 (x.1 : Int), x.2]) (us.drop (k + 1)) = C
  unfold splice
  rw [← hl]
  simp [List.drop_append]

/-- A slice of tags, its row its own. -/
def TOwn (e : TypeId) (w : World) (v : Value) (us : List (Nat × Value)) : Prop := w.ownsRow 0 e 2 v us.length (tgCells us)
theorem TOwn.nil (e : TypeId) (w : World) : TOwn e w (.slice none 0 0) [] := World.ownsRow_nil w 0 e 2
theorem TOwn.lt {e : TypeId} {w : World} {v : Value} {us : List (Nat × Value)} (h : TOwn e w v us) {k : Nat} (hk : v.ownBlock = some k) : k < w.heap.size := (World.ownsRow.lt h k hk).2
theorem TOwn.keep {e : TypeId} {w w' : World} {v : Value} {us : List (Nat × Value)} (h : TOwn e w v us) (hk : ∀ k, v.ownBlock = some k → w'.heap[k]? = w.heap[k]?) : TOwn e w' v us := by
  refine ⟨h.1, ?_⟩
  rcases h.2 with hn | ⟨g, cap, cur, rfl, hb, hg, rest⟩
  · exact .inl hn
  · exact .inr ⟨g, cap, cur, rfl, hb, (hk g rfl).trans hg, rest⟩
theorem TOwn.ch {e : TypeId} {w w' : World} {v : Value} {us : List (Nat × Value)} (h : TOwn e w v us) (hc : Ch (fun _ => False) w w') : TOwn e w' v us := h.keep fun k hk => hc.block k (h.lt hk) fun h => h
theorem TOwn.form {e : TypeId} {w : World} {v : Value} {us : List (Nat × Value)} (h : TOwn e w v us) : ∃ a c, v = .slice a us.length c ∧ ∀ (i : Nat) (x : Nat × Value), us[i]? = some x → ∃ g, a = some ⟨g, 0, none⟩ ∧ g < w.heap.size ∧ v.ownBlock = some g ∧ AtA w ((⟨g, 0, none⟩ : Addr).add (i * 2)) [.int .u32 (x.1 : Int), x.2] := by
  rcases h.2 with ⟨rfl, hn⟩ | ⟨g, cap, cur, rfl, hb, hg, hnc, hcm, hcs, htake⟩
  · have : us = [] := List.eq_nil_of_length_eq_zero hn
    subst this
    exact ⟨none, 0, rfl, fun i x hx => by simp at hx⟩
  · refine ⟨_, cap, rfl, fun i x hx => ⟨g, rfl, h.lt rfl, rfl, fun j u hu => ?_⟩⟩
    rw [Addr.add_add]
    exact World.ownsRow.cells h (g := g) rfl _ u (tgCells_get hx j u hu)
theorem TOwn.one {e : TypeId} {w : World} {v : Value} {us : List (Nat × Value)} (h : TOwn e w v us) : v.oneCell' = true := by obtain ⟨a, c, rfl, _⟩ := h.form; rfl

/-- A tag into a place of the row. -/
theorem OpK.storeT {P : Program} {ρ : Operand → Value} {w : World} {K : Value → World → Prop} {d : Option Tmp} {ty : TypeId} {pos : String} {af : Array Edge} {gd : Option (Nat × Bool)} {x y : Operand} {t e : TypeId} {g k c : Nat} {us : List (Nat × Value)} {z : Nat × Value}
    (hi : (P.info? t).map (·.size) = some 2) (hx : ρ x = .pointer (some ((⟨g, 0, none⟩ : Addr).add (k * 2)))) (hy : ρ y = .agg #[.int .u32 (z.1 : Int), z.2]) (h1 : z.2.oneCell' = true) (ho : TOwn e w (.slice (some ⟨g, 0, none⟩) us.length c) us) (hk : k < us.length)
    (h : ∀ w1, TOwn e w1 (.slice (some ⟨g, 0, none⟩) (us.set k z).length c) (us.set k z) → Ch (fun i => i = g) w w1 → w1.heap.size = w.heap.size → K undef w1) : OpK P ρ ⟨d, .store t x y, ty, pos, af, gd⟩ w K := by
  rcases ho.2 with ⟨hn, _⟩ | ⟨g', cap, cur, hv, hb, hg, hnc, hcm, hcs, htake⟩
  · cases hn
  cases hv
  rw [Addr.add_mid, Nat.zero_add] at hx
  have hcl : cur.toList.length = c * 2 := by simpa using hcs
  refine OpK.storeAny (cur := cur.toList) (us := [.int .u32 (z.1 : Int), z.2]) (te := e) hi hx hy rfl (fun u hu => ?_) (by simpa using hg) (by simp only [List.length_cons, List.length_nil]; omega) ?_
  · simp only [List.mem_cons, List.not_mem_nil, or_false] at hu
    rcases hu with rfl | rfl
    · rfl
    · exact h1
  have hset : ∀ i, (w.setRow g (splice cur.toList [.int .u32 (z.1 : Int), z.2] (k * 2)).toArray).heap[i]? = if i = g then some (.cells (splice cur.toList [.int .u32 (z.1 : Int), z.2] (k * 2)).toArray e (0, 0)) else w.heap[i]? := fun i => by
    simp only [World.setRow, Array.getElem?_modify]
    by_cases hi : i = g
    · subst hi; simp [hg]
    · simp [hi, Ne.symm hi]
  refine h _ ?_ ⟨rfl, rfl, rfl, by simp [World.setRow], fun i _ hi => by rw [hset, if_neg hi]⟩ (by simp [World.setRow])
  refine ⟨by rw [tgCells_len], .inr ⟨g, c, _, rfl, hb, (hset g).trans (if_pos rfl), by simpa using hnc, hcm, ?_, ?_⟩⟩
  · rw [List.size_toArray, splice_length (by simp only [List.length_cons, List.length_nil]; omega), hcl]
  · simp only [List.length_set]
    rw [← tgCells_set us k z hk, ← htake]
    have hsl : ∀ (L : List Value) (m o : Nat) (cc : List Value), o + cc.length ≤ m → m ≤ L.length → (splice L cc o).take m = splice (L.take m) cc o := by
      intro L m o cc h1 h2
      unfold splice
      have e : L = L.take m ++ L.drop m := by simp
      have hlm : (L.take m).length = m := by rw [List.length_take]; omega
      conv => lhs; rw [e]
      rw [List.take_append_of_le_length (l₁ := L.take m) (by omega), List.drop_append_of_le_length (l₁ := L.take m) (by omega), ← List.append_assoc, List.take_append_of_le_length, List.take_of_length_le]
      · simp; omega
      · simp; omega
    exact hsl cur.toList (us.length * 2) (k * 2) _ (by simp only [List.length_cons, List.length_nil]; omega) (by omega)

/-- One tag more: zero. -/
theorem append_tag {P : Program} {w : World} {t e ty : TypeId} (ht : P.underlying t = some (.slice e)) (hz : (P.info? e).map (fun i => (i.zero.map (·.cells), i.size, i.bytes)) = some (some #[.int .u32 0, .slice none 0 0], 2, 32)) {v : Value} {us : List (Nat × Value)} (hv : TOwn e w v us) (hl : us.length < 4294967296)
    {a : Addr} (ha : AtA w a [.int .u32 0, .slice none 0 0]) :
    ∃ v' w', (Builtin.append_ #[t, t] ty #[v, .slice (some a) 1 1]).run P w = .ok v' w' ∧ TOwn e w' v' (us ++ [(0, .slice none 0 0)]) ∧ Ch (fun i => v.ownBlock = some i) w w' ∧ ∀ i, v'.ownBlock = some i → v.ownBlock = some i ∨ w.heap.size ≤ i := by
  obtain ⟨i, hi, hh⟩ := Option.map_eq_some_iff.1 hz
  simp only [Prod.mk.injEq] at hh
  obtain ⟨hz1, hs, hb⟩ := hh
  obtain ⟨z, hz2, hz3⟩ := Option.map_eq_some_iff.1 hz1
  obtain ⟨v', w', hr, hown, hg, _, hat⟩ := run_append_own_at (P := P) w 0 t ty e i z 2 32 ht hi hz2 hs hb (by rw [hz3]; rfl) (by omega) v us.length (tgCells us) hv a 1 1 [.int .u32 0, .slice none 0 0] rfl ha
    (fun u hu => by
      simp only [List.mem_cons, List.not_mem_nil, or_false] at hu
      rcases hu with rfl | rfl <;> rfl) (by simp only [maxLen]; omega) (by omega) (Nat.zero_le _)
  refine ⟨v', w', hr, ?_, Ch.of_grown hg fun k hk => hk, fun j hj => ?_⟩
  · unfold TOwn
    rw [List.length_append, tgCells_app]
    exact hown
  · rcases hat with h | h
    · exact .inl (h ▸ hj)
    · rw [h] at hj
      simp only [Option.some.injEq] at hj
      exact .inr (by omega)

def zeroG : List Value := [.int .u32 0, .slice none 0 0]
theorem run_bsTag {P : Program} {t e : TypeId} (h : abuildS P t 1 [(0, .agg [.lit (.int .u32 0), .lit (.slice none 0 0)])] = some (e, [.lit (.int .u32 0), .lit (.slice none 0 0)])) (w : World) :
    (Instr.buildSlice t 1 #[(0, .agg zeroG.toArray)]).run P w = .ok (.slice (some ⟨w.heap.size, 0, none⟩) 1 1) (w.alloc (.cells zeroG.toArray e)) := by
  obtain ⟨vs, h1, h2⟩ := abuildS_sound (E := []) (qs := #[(0, .agg zeroG.toArray)]) h (.cons ⟨rfl, zeroG, .cons rfl (.cons rfl .nil), rfl⟩ .nil) w
  cases h1 with | cons g0 h1 => cases h1 with | cons g1 h1 => cases h1 with | nil =>
  rw [h2, show _ = _ from g0, show _ = _ from g1]
  rfl
theorem two_at {w : World} {a : Addr} {i : Nat} {x y : Value} (h0 : w.cell? (a.add (i * 2)) = some x) (h1 : w.cell? (a.add (i * 2 + 1)) = some y) : AtA w (a.add (i * 2)) [x, y] := by
  intro j v hj
  rw [Addr.add_add]
  match j, hj with
  | 0, hj => simp only [List.getElem?_cons_zero, Option.some.injEq] at hj; subst hj; exact h0
  | 1, hj => simp only [List.getElem?_cons_succ, List.getElem?_cons_zero, Option.some.injEq] at hj; subst hj; exact h1
theorem AtA.ch {w w' : World} {a : Addr} {cs : List Value} (h : AtA w a cs) (hlt : a.block < w.heap.size) (hc : Ch (fun _ => False) w w') : AtA w' a cs := fun j v hj =>
  (cell_keep (w := w) (w' := w') (by rw [add_block]; exact hc.block a.block hlt fun h => h)).trans (h j v hj)
end Go.Kx

/- Rules for the walk of values and parts. -/
namespace Go.Kx
open Go.RowKit
set_option linter.unusedSimpArgs false
set_option linter.unusedVariables false

theorem Grew.pre {e : TypeId} {w w1 w' : World} {d : Value} {bs : List UInt8} (hc : Ch (fun _ => False) w w1) (h : Grew e w1 (.slice none 0 0) w' d bs) : Grew e w (.slice none 0 0) w' d bs := by
  refine ⟨h.own, (hc.trans (h.ch.mono (T := fun _ => False) fun i _ hi => (by cases hi)) fun i _ h => h).mono fun i _ h => h.elim, fun k hk => ?_⟩
  rcases h.blk k hk with h' | h'
  · cases h'
  · exact .inr (Nat.le_trans hc.size h')
theorem Grew.new_ch {e : TypeId} {w w' : World} {d : Value} {bs : List UInt8} (h : Grew e w (.slice none 0 0) w' d bs) : Ch (fun _ => False) w w' := h.ch.mono fun i _ hi => by cases hi
theorem Grew.new_lo {e : TypeId} {w w' : World} {d : Value} {bs : List UInt8} (h : Grew e w (.slice none 0 0) w' d bs) {k : Nat} (hk : d.ownBlock = some k) : w.heap.size ≤ k := by
  rcases h.blk k hk with h' | h'
  · cases h'
  · exact h'
/-- What is new grows. -/
theorem Grew.more {e : TypeId} {w w1 w2 : World} {d d2 : Value} {bs b2 : List UInt8} (h : Grew e w (.slice none 0 0) w1 d bs) (k : Grew e w1 d w2 d2 b2) : Grew e w (.slice none 0 0) w2 d2 b2 := h.trans k
theorem Grew.later {e : TypeId} {w w1 w2 : World} {d : Value} {bs : List UInt8} (h : Grew e w (.slice none 0 0) w1 d bs) (hc : Ch (fun _ => False) w1 w2) : Grew e w (.slice none 0 0) w2 d bs :=
  ⟨h.own.keep fun k hk => hc.block k (h.own.lt hk) fun h => h, h.ch.trans hc fun i _ h => h.elim, h.blk⟩

section
variable {P : Program} {ρ : Operand → Value} {w : World} {K : Value → World → Prop} {d : Option Tmp} {ty : TypeId} {pos : String} {af : Array Edge} {gd : Option (Nat × Bool)}
theorem OpK.makeB {x y : Operand} {t e : TypeId} (ht : P.underlying t = some (.slice e)) (he : U8 P e) (hx : ρ x = .int .i64 16) (hy : ρ y = .int .i64 16)
    (h : ∀ w1 g, Blk w1 g e ((List.replicate 16 (0 : UInt8)).map bv) → Ch (fun _ => False) w w1 → g = w.heap.size → w1.heap.size = w.heap.size + 1 → K (.slice (some ⟨g, 0, none⟩) 16 16) w1) : OpK P ρ ⟨d, .makeSlice t x y, ty, pos, af, gd⟩ w K := by
  obtain ⟨i, hi, hz, hs, hb⟩ := u8_parts he
  have hr := run_make (P := P) w t e i (.int .u8 0) ht hi hz .i64 .i64 16 16 (by decide) (by decide) (by rw [hb]; decide) (by decide)
  have hm : madeCells (Value.int .u8 0).cells (((16 : Int).toNat) * i.size) = ((List.replicate 16 (0 : UInt8)).map bv).toArray := by rw [hs]; kernel_rfl
  rw [hm] at hr
  simp only [OpK, execOp, hx, hy, Sem.run_bind, hr, Result.andThen_ok, Sem.run_pure, After]
  exact h _ _ (Blk.new w e _) (Ch.alloc _ w _) rfl (by simp)
/-- Octets are copied over the front of a row of 16. -/
theorem OpK.copyB {x y : Operand} {t u e : TypeId} {g : Nat} {l : List UInt8} {a : Option Addr} {c : Nat}
    (ht : P.underlying t = some (.slice e)) (hi : (P.info? e).map (·.size) = some 1) (hx : ρ x = .slice (some ⟨g, 0, none⟩) 16 16) (hy : ρ y = .slice a l.length c) (ha : a = none → l = []) (hO : ∀ a', a = some a' → Oct w a' l) (hb : Blk w g e ((List.replicate 16 (0 : UInt8)).map bv))
    (h : ∀ r w1, Blk w1 g e ((uuidL l).map bv) → Ch (fun k => k = g) w w1 → K r w1) : OpK P ρ ⟨d, .call ⟨.builtin .copy, #[x, y], #[t, u]⟩, ty, pos, af, gd⟩ w K := by
  cases a with
  | none =>
    have hl := ha rfl
    subst hl
    have hr : ∃ r, (Builtin.copy_ #[t, u] ty #[.slice (some ⟨g, 0, none⟩) 16 16, .slice none 0 c]).run P w = .ok r w := by
      obtain ⟨i, hi, hs⟩ := Option.map_eq_some_iff.1 hi
      simp [Builtin.copy_, run_underlying ht, Builtin.lenOf, Builtin.firstCells, sizeOf, typeInfo, hi, hs, storeCells]
    obtain ⟨r, hr⟩ := hr
    rw [List.length_nil] at hy
    simp only [OpK, execOp, resolve, invoke, builtin, Sem.run_bind, Sem.run_pure, Result.andThen_ok, List.map_toArray, List.map_cons, List.map_nil, hx, hy, hr, After]
    exact h r w hb (Ch.refl _ _)
  | some a =>
    have hmin : ((l.take 16).map bv).length = Nat.min l.length 16 := by rw [List.length_map, List.length_take]; exact Nat.min_comm _ _
    have hr := run_copy_cells (P := P) w t u ty e g 0 16 16 a l.length c ((l.take 16).map bv) ht hi hmin (fun j v hv => by
        rw [List.getElem?_map] at hv
        obtain ⟨b, hb', rfl⟩ := Option.map_eq_some_iff.1 hv
        exact (hO a rfl).take 16 j b hb') (fun j hj => by
        rw [hb.cell, List.getElem?_eq_getElem (by simp only [List.length_map, List.length_take, List.length_replicate] at hj ⊢; omega)]
        rfl) (fun j _ => hb.free _) (bv_one _)
    simp only [OpK, execOp, resolve, invoke, builtin, Sem.run_bind, Sem.run_pure, Result.andThen_ok, List.map_toArray, List.map_cons, List.map_nil, hx, hy, hr, After]
    have hb2 := hb.setCells ((l.take 16).map bv) 0 (by simp; omega)
    have e1 : spl ((List.replicate 16 (0 : UInt8)).map bv) 0 ((l.take 16).map bv) = (uuidL l).map bv := by
      unfold uuidL spl
      simp only [List.take_zero, List.nil_append, Nat.zero_add, List.length_map]
      rw [← List.map_drop, ← List.map_append]
      congr 1
      rw [List.drop_replicate, List.length_take, List.take_append, List.take_replicate]
      congr 2
      omega
    rw [e1] at hb2
    exact h _ _ hb2 (setCells_ch g _ 0 w)
end
/-- Sixteen octets of their own. -/
theorem new_uuid {e : TypeId} {w w1 : World} {g : Nat} {l : List UInt8} (hb : Blk w1 g e ((uuidL l).map bv)) (hc : Ch (fun _ => False) w w1) (hg : w.heap.size ≤ g) : Grew e w (.slice none 0 0) w1 (.slice (some ⟨g, 0, none⟩) 16 16) (uuidL l) := by
  have hl := uuidL_len l
  refine ⟨⟨by rw [List.length_map]; omega, .inr ⟨g, 16, _, by rw [hl], Nat.zero_le _, hb, by omega, by simp [maxLen], by simp [hl], by rw [List.take_of_length_le (by simp)]⟩⟩, hc.mono fun i _ h => h.elim, fun k hk => ?_⟩
  simp only [Value.ownBlock, Option.some.injEq] at hk
  exact .inr (by omega)

/-- Two branches that meet again. -/
theorem CWL.condJ {P : Program} {n : Nat} {c : Operand} {x y : Code} {cs : List Code} {σ : Fm} {w : World} {Q : Exit → Fm → World → Prop} {b : Bool} (hc : ev σ c = .bool b) (J : Fm → World → Prop) (ht : b = true → CW P n x σ w (Then J fun _ _ _ => False)) (hf : b = false → CW P n y σ w (Then J fun _ _ _ => False))
    (hn : ∀ σ' w', J σ' w' → CWL P n cs σ' w' Q) : CWL P n (.cond c x y :: cs) σ w Q := by
  refine CWL.cons (CW.mono (CW.cond (Q := Then J fun _ _ _ => False) hc ?_) fun e σ' w' h => ?_)
  · cases b with
    | true => exact ht rfl
    | false => exact hf rfl
  cases e with
  | normal => exact hn σ' w' h
  | _ => exact h.elim
theorem LsIs.nil (w : World) (B : Nat) (cells : Nat → List Value) : LsIs w B [] cells (.slice none 0 0) := ⟨none, 0, rfl, Nat.le_refl _, by simp [maxLen], fun _ => rfl, fun _ h => by cases h⟩
theorem flat_take {α : Type} {l : List α} {i : Nat} {x : α} (g : α → List UInt8) (h : l[i]? = some x) : (l.take (i + 1)).flatMap g = (l.take i).flatMap g ++ g x := by
  rw [List.take_add_one, h]
  simp
theorem flat_take_le {α : Type} (l : List α) (i : Nat) (g : α → List UInt8) : ((l.take i).flatMap g).length ≤ (l.flatMap g).length := by
  conv => rhs; rw [← List.take_append_drop i l]
  rw [List.flatMap_append, List.length_append]
  omega
theorem Blk.chS {w w' : World} {g : Nat} {t : TypeId} {cs : List Value} {S : Nat → Prop} (h : Blk w g t cs) (hc : Ch S w w') (hS : ¬ S g) : Blk w' g t cs := h.keep (hc.block g h.lt hS)
theorem AtA.keepS {w w' : World} {a : Addr} {cs : List Value} {S : Nat → Prop} (h : AtA w a cs) (hlt : a.block < w.heap.size) (hc : Ch S w w') (hS : ¬ S a.block) : AtA w' a cs := fun j v hj =>
  (cell_keep (w := w) (w' := w') (by rw [add_block]; exact hc.block a.block hlt hS)).trans (h j v hj)
theorem LsIs.block {w : World} {B : Nat} {l : List Tr} {cells : Nat → List Value} {a : Addr} {n c : Nat} (h : LsIs w B l cells (.slice (some a) n c)) {i : Nat} {u : Tr} (hu : l[i]? = some u) : a.block < B := by
  obtain ⟨a', c', h1, h2, h3, h4, h5⟩ := h
  cases h1
  exact (h5 a rfl).1 (nil_of_get hu)
theorem Own.slice {e : TypeId} {w : World} {v : Value} {bs : List UInt8} (h : Own e w v bs) : ∃ a c, v = .slice a bs.length c ∧ (a = none → bs = []) ∧ ∀ a', a = some a' → Oct w a' bs ∧ v.ownBlock = some a'.block := by
  rcases h.2 with ⟨rfl, hn⟩ | ⟨g, cap, cur, rfl, hb, hg, hnc, hcm, hcs, htake⟩
  · have : bs = [] := List.eq_nil_of_length_eq_zero hn
    subst this
    exact ⟨none, 0, rfl, fun _ => rfl, fun _ h => by cases h⟩
  · obtain ⟨a, c, h1, h2, h3⟩ := h.len
    cases h1
    refine ⟨_, _, rfl, (fun h => by cases h), fun a' e => ?_⟩
    cases e
    exact ⟨h3 _ rfl, rfl⟩

theorem acts_take {ver : Int} {flds : List Fld} {i : Nat} {f : Fld} (h : flds[i]? = some f) : acts ver (flds.take (i + 1)) = acts ver (flds.take i) ++ if (decide (f.tag < 0) && hasL f ver) = true then [(f, i)] else [] := by
  have hi : i < flds.length := (List.getElem?_eq_some_iff.1 h).1
  unfold acts
  rw [List.take_add_one, h, Option.toList_some, List.zipIdx_append, List.filter_append]
  simp only [List.length_take, Nat.min_eq_left (Nat.le_of_lt hi), Nat.zero_add, List.zipIdx_cons, List.zipIdx_nil, List.filter_cons, List.filter_nil]
theorem acts_take_le (ver : Int) (flds : List Fld) (i : Nat) (g : Fld × Nat → List UInt8) : ((acts ver (flds.take i)).flatMap g).length ≤ ((acts ver flds).flatMap g).length := by
  conv => rhs; rw [← List.take_append_drop i flds]
  unfold acts
  rw [List.zipIdx_append, List.filter_append, List.flatMap_append, List.length_append]
  omega
theorem u64_nat {n : Nat} (h : n < 18446744073709551616) : IntKind.u64.wrap (n : Int) = (n : Int) := wrap_un .u64 rfl _ (by omega) (by show (n : Int) < 2 ^ 64; omega)
theorem All2.get2 {α β : Type} {R : α → β → Prop} {l : List α} {m : List β} (h : All2 R l m) {i : Nat} {b : β} (hb : m[i]? = some b) : ∃ a, l[i]? = some a ∧ R a b := h.at2 hb

/-- Whether a version is flexible. -/
def flexB (flex ver : Int) : Bool := decide (flex ≥ 0) && decide (ver ≥ flex)
end Go.Kx

/- The laws Again and Cut: what is read again of what the reference wrote; and from a walk to a statement. -/
namespace Go.Kx
open Go.ChangeShapes Go.WideShapes Go.ChangeAt Go.RowKit
set_option linter.unusedSimpArgs false
set_option linter.unusedVariables false

theorem part_enc {ver : Int} {fx : Bool} {s : Sch} {flds : List Fld} {d : Nat} {t : Tr} (hm : matchS ver fx s (acts ver flds) = true) (hok : okB ver fx s = true) (hsm : smallB s = true) (hpl : plainB (d + 1) flds = true) : ∃ v, partF ver fx (d + 1) flds t = enc ver fx s v ∧ Good ver fx s v := by
  obtain ⟨d', hd, h1⟩ := plain_part (ver := ver) (fx := fx) hpl
  obtain rfl : d = d' := by omega
  obtain ⟨h2, h3⟩ := mkV_enc s d (acts ver flds) t hm hok hsm h1
  exact ⟨_, h2.symm, h3⟩
/-- What the reference wrote is read, and written as the same. -/
theorem again_plain {ver : Int} {fx : Bool} {s : Sch} {flds : List Fld} {d : Nat} {t : Tr} {v0 : V} (hm : matchS ver fx s (acts ver flds) = true) (hok : okB ver fx s = true) (hsm : smallB s = true) (hpl : plainB (d + 1) flds = true) (hs : startB s v0 = true) :
    (dec ver fx s v0 (partF ver fx (d + 1) flds t)).map (fun y => enc ver fx s y.1) = some (partF ver fx (d + 1) flds t) := by
  obtain ⟨v, h1, h2⟩ := part_enc (t := t) hm hok hsm hpl
  obtain ⟨v', h3, h4, _⟩ := dec_enc s [] hok hs h2
  rw [List.append_nil] at h3
  rw [h1, h3]
  simp only [Option.map_some, h4]
/-- What ends ahead of its end is not read. -/
theorem cut_plain {ver : Int} {fx : Bool} {s : Sch} {flds : List Fld} {d : Nat} {t : Tr} {v0 : V} (hm : matchS ver fx s (acts ver flds) = true) (hok : okB ver fx s = true) (hsm : smallB s = true) (hpl : plainB (d + 1) flds = true) (hs : startB s v0 = true) {k : Nat}
    (hk : k < (partF ver fx (d + 1) flds t).length) : dec ver fx s v0 ((partF ver fx (d + 1) flds t).take k) = none := by
  obtain ⟨v, h1, h2⟩ := part_enc (t := t) hm hok hsm hpl
  obtain ⟨v', h3, h4, _⟩ := dec_enc s [] hok hs h2
  rw [List.append_nil] at h3
  rw [← h1] at h3
  cases hd : dec ver fx s v0 ((partF ver fx (d + 1) flds t).take k) with
  | none => rfl
  | some y =>
    have h5 := dec_ext s ((partF ver fx (d + 1) flds t).drop k) hd
    rw [List.take_append_drop, h3] at h5
    simp only [Option.some.injEq, Prod.mk.injEq] at h5
    have h6 := congrArg List.length h5.2
    rw [List.length_append, List.length_drop, List.length_nil] at h6
    omega
/-- All versions are like the message's own. -/
def specB (ff : Option Int) (flex : Int) (s : Sch) (flds : List Fld) (most : Nat) : Bool := (List.range (most + 1)).all fun k => (flexB flex (k : Int) == flexAt ff (k : Int)) && matchS (k : Int) (flexAt ff (k : Int)) s (acts (k : Int) flds)
theorem specB_at {ff : Option Int} {flex : Int} {s : Sch} {flds : List Fld} {most : Nat} (h : specB ff flex s flds most = true) {ver : Int} (h0 : 0 ≤ ver) (hm : ver ≤ (most : Int)) : flexB flex ver = flexAt ff ver ∧ matchS ver (flexAt ff ver) s (acts ver flds) = true := by
  have := List.all_eq_true.1 h ver.toNat (List.mem_range.2 (by omega))
  simp only [Bool.and_eq_true, beq_iff_eq] at this
  rwa [show ((ver.toNat : Nat) : Int) = ver by omega] at this
theorem part_short {ver : Int} {fx : Bool} {flds : List Fld} {d : Nat} {t : Tr} (hc : Nat.ble (costF d flds) 1000 = true) (ht : t.tw ≤ 1048576) : (partF ver fx d flds t).length < 1073741824 := by
  have h1 := partF_len (ver := ver) (fx := fx) d flds t
  have h2 : costF d flds ≤ 1000 := Nat.le_of_ble_eq_true hc
  have h3 : costF d flds * t.tw ≤ 1000 * 1048576 := Nat.mul_le_mul h2 ht
  omega

section
variable {H : Type} {enc : TypeId × Value → H} {P : Program} {f : FuncId} {fn : Func} {u8 u16 bo tT tI tS tB tL tU tG tK : TypeId} {s : ChangeSpec} {W : World} {base : Nat} {args : Array Value} {ds gs : List (DataW H)} {before : List MemPlace}

theorem tree_arg (Y : TreeTy P tT tI tS tB tL tU tG tK u8) {bulk : DataW H → Nat} {all : List (DataW H) → Nat} (hb : BulkIs bulk all) {v : Value} {d : DataW H} {p : List MemPlace} (hval : Value.okWide P W .any base tT v) (h : DataW.Trod enc P W 0 (fun _ => true) true tT v d p) :
    ∃ t cs, v = .agg (Array.mk cs) ∧ TrIs W W.heap.size t cs ∧ t.tw ≤ bulk d := by
  have hs := Y.T
  unfold structOf at hs
  split at hs
  · rename_i fs hu
    obtain ⟨cs, rfl, _⟩ := okWide_struct hu hval
    obtain ⟨fuel, hf⟩ := h
    obtain ⟨t, h1, h2⟩ := tree_of Y hb fuel hf
    exact ⟨t, cs.toList, rfl, h1, h2⟩
  · cases hs

theorem again_contract (Y : TreeTy P tT tI tS tB tL tU tG tK u8) {bulk : DataW H → Nat} {all : List (DataW H) → Nat} (hb : BulkIs bulk all) (hpar : fn.params = #[u8, tT]) (hres : fn.resultTypes = #[bo]) (hbo : P.underlying bo = some .bool)
    (hlo : laidOutB P = true) (hrr : P.readableRec tT = true) (hlt : tT < P.types.size) (hvars : s.vars = []) (hs : ∀ d1 d2, s.fn H [d1, d2] = { results := [.lit (.bool true)], args := [d1, d2] })
    (hval : ∀ (j : Nat) t v, fn.params[j]? = some t → args[j]? = some v → Value.okWide P W .any base t v)
    (hW : DataW.Whole enc P fn.params.toList s.vars false W args.toList ds gs before) (hsmall : all (ds ++ gs) ≤ 1048576)
    (walk : ∀ (n : Nat) t cs, n < 256 → TrIs W W.heap.size t cs → t.tw ≤ 1048576 → Calls P f #[.int .u8 (n : Int), .agg (Array.mk cs)] W fun e w' => e = .returned (.bool true) ∧ Ch (fun _ => False) W w') :
    Calls P f args W fun e W' => ∃ v, e = .returned v ∧ s.post enc P fn false true false false W args v W' := by
  have hW' := hW
  obtain ⟨p, q, hA0, hV, rfl, hfz, hnd⟩ := hW
  have hA : DataW.TrodAll enc P W 0 (fun _ => true) true fn.params.toList args.toList ds p := hA0
  rw [hpar] at hA hval
  obtain ⟨v0, vs0, d0, ds0, p0, q0, hargs, rfl, rfl, h0, r0⟩ := trodAll_cons hA
  obtain ⟨v1, vs1, d1, ds1, p1, q1, hargs1, rfl, rfl, h1, r1⟩ := trodAll_cons r0
  obtain ⟨rfl, rfl, rfl⟩ := trodAll_nil r1
  subst hargs1
  obtain rfl : args = #[v0, v1] := by cases args; simp_all
  rw [hvars] at hV
  obtain ⟨rfl, rfl⟩ := trodVars_none hV
  obtain ⟨a0, rfl, rfl, rfl, w0⟩ := open_int Y.O (hval 0 u8 v0 rfl rfl) h0
  obtain ⟨t, cs, hv1, hT, htw⟩ := tree_arg Y hb (hval 1 tT v1 rfl rfl) h1
  subst hv1
  have hx : 0 ≤ a0 ∧ a0 ≤ 255 := by simpa [Lit.wf, IntKind.min, IntKind.max, IntKind.signed, IntKind.bits] using w0
  obtain ⟨n, rfl⟩ := Int.eq_ofNat_of_zero_le hx.1
  simp only [List.append_nil, List.nil_append] at hW'
  have hlt1 : ∀ x ∈ p1, x.block < W.heap.size := fun x hx => by simpa using hW'.lt x hx
  have htw2 : t.tw ≤ 1048576 := by
    simp only [List.cons_append, List.nil_append, hb.cons, hb.none] at hsmall
    omega
  refine (walk n t cs (by omega) hT htw2).mono fun e W' ⟨he, hg⟩ => ?_
  subst he
  have hbel : Below W.heap.size W W' := hg.below (Nat.le_refl _) fun _ _ h => h
  have hsp := hs (.lit (.int .u8 (n : Int))) d1
  refine ⟨_, rfl, _, _, _, [], p1, [], hW', ?_, ?_, ?_, hbel.frame _, fun h => by cases h⟩
  · rw [show ([.lit (.int .u8 (n : Int)), d1] ++ [] : List (DataW H)) = [.lit (.int .u8 (n : Int)), d1] from rfl, hsp, hres]
    exact trodAll_mk1 (shut_bool hbo _)
  · rw [show ([.lit (.int .u8 (n : Int)), d1] ++ [] : List (DataW H)) = [.lit (.int .u8 (n : Int)), d1] from rfl, hsp, hpar]
    exact trodAll_cons_mk (p := []) (shut_int Y.O w0) (trodAll_mk1 (Below.trod hlo hrr hlt h1 hbel hlt1))
  · rw [show ([.lit (.int .u8 (n : Int)), d1] ++ [] : List (DataW H)) = [.lit (.int .u8 (n : Int)), d1] from rfl, hsp, hvars]
    rfl

theorem cut_contract (Y : TreeTy P tT tI tS tB tL tU tG tK u8) {bulk : DataW H → Nat} {all : List (DataW H) → Nat} (hb : BulkIs bulk all) (h16 : P.underlying u16 = some (.int .u16)) (hpar : fn.params = #[u8, tT, u16]) (hres : fn.resultTypes = #[bo]) (hbo : P.underlying bo = some .bool)
    (hlo : laidOutB P = true) (hrr : P.readableRec tT = true) (hlt : tT < P.types.size) (hvars : s.vars = []) (hs : ∀ d1 d2 d3, s.fn H [d1, d2, d3] = { results := [.lit (.bool true)], args := [d1, d2, d3] })
    (hval : ∀ (j : Nat) t v, fn.params[j]? = some t → args[j]? = some v → Value.okWide P W .any base t v)
    (hW : DataW.Whole enc P fn.params.toList s.vars false W args.toList ds gs before) (hsmall : all (ds ++ gs) ≤ 1048576)
    (walk : ∀ (n : Nat) t cs (k : Nat), n < 256 → TrIs W W.heap.size t cs → t.tw ≤ 1048576 → k < 65536 → Calls P f #[.int .u8 (n : Int), .agg (Array.mk cs), .int .u16 (k : Int)] W fun e w' => e = .returned (.bool true) ∧ Ch (fun _ => False) W w') :
    Calls P f args W fun e W' => ∃ v, e = .returned v ∧ s.post enc P fn false true false false W args v W' := by
  have hW' := hW
  obtain ⟨p, q, hA0, hV, rfl, hfz, hnd⟩ := hW
  have hA : DataW.TrodAll enc P W 0 (fun _ => true) true fn.params.toList args.toList ds p := hA0
  rw [hpar] at hA hval
  obtain ⟨v0, vs0, d0, ds0, p0, q0, hargs, rfl, rfl, h0, r0⟩ := trodAll_cons hA
  obtain ⟨v1, vs1, d1, ds1, p1, q1, hargs1, rfl, rfl, h1, r1⟩ := trodAll_cons r0
  obtain ⟨v2, vs2, d2, ds2, p2, q2, hargs2, rfl, rfl, h2, r2⟩ := trodAll_cons r1
  obtain ⟨rfl, rfl, rfl⟩ := trodAll_nil r2
  subst hargs2 hargs1
  obtain rfl : args = #[v0, v1, v2] := by cases args; simp_all
  rw [hvars] at hV
  obtain ⟨rfl, rfl⟩ := trodVars_none hV
  obtain ⟨a0, rfl, rfl, rfl, w0⟩ := open_int Y.O (hval 0 u8 v0 rfl rfl) h0
  obtain ⟨a2, rfl, rfl, rfl, w2⟩ := open_int h16 (hval 2 u16 v2 rfl rfl) h2
  obtain ⟨t, cs, hv1, hT, htw⟩ := tree_arg Y hb (hval 1 tT v1 rfl rfl) h1
  subst hv1
  have hx : 0 ≤ a0 ∧ a0 ≤ 255 := by simpa [Lit.wf, IntKind.min, IntKind.max, IntKind.signed, IntKind.bits] using w0
  have hx2 : 0 ≤ a2 ∧ a2 ≤ 65535 := by simpa [Lit.wf, IntKind.min, IntKind.max, IntKind.signed, IntKind.bits] using w2
  obtain ⟨n, rfl⟩ := Int.eq_ofNat_of_zero_le hx.1
  obtain ⟨k, rfl⟩ := Int.eq_ofNat_of_zero_le hx2.1
  simp only [List.append_nil, List.nil_append] at hW'
  have hlt1 : ∀ x ∈ p1, x.block < W.heap.size := fun x hx => by simpa using hW'.lt x hx
  have htw2 : t.tw ≤ 1048576 := by
    simp only [List.cons_append, List.nil_append, hb.cons, hb.none] at hsmall
    omega
  refine (walk n t cs k (by omega) hT htw2 (by omega)).mono fun e W' ⟨he, hg⟩ => ?_
  subst he
  have hbel : Below W.heap.size W W' := hg.below (Nat.le_refl _) fun _ _ h => h
  have hsp := hs (.lit (.int .u8 (n : Int))) d1 (.lit (.int .u16 (k : Int)))
  refine ⟨_, rfl, _, _, _, [], p1, [], hW', ?_, ?_, ?_, hbel.frame _, fun h => by cases h⟩
  · rw [show ([.lit (.int .u8 (n : Int)), d1, .lit (.int .u16 (k : Int))] ++ [] : List (DataW H)) = [.lit (.int .u8 (n : Int)), d1, .lit (.int .u16 (k : Int))] from rfl, hsp, hres]
    exact trodAll_mk1 (shut_bool hbo _)
  · rw [show ([.lit (.int .u8 (n : Int)), d1, .lit (.int .u16 (k : Int))] ++ [] : List (DataW H)) = [.lit (.int .u8 (n : Int)), d1, .lit (.int .u16 (k : Int))] from rfl, hsp, hpar]
    have h12 := trodAll_cons_mk (Below.trod hlo hrr hlt h1 hbel hlt1) (trodAll_mk1 (shut_int h16 w2))
    simp only [List.append_nil] at h12
    exact trodAll_cons_mk (p := []) (shut_int Y.O w0) h12
  · rw [show ([.lit (.int .u8 (n : Int)), d1, .lit (.int .u16 (k : Int))] ++ [] : List (DataW H)) = [.lit (.int .u8 (n : Int)), d1, .lit (.int .u16 (k : Int))] from rfl, hsp, hvars]
    rfl
end
end Go.Kx
set_option linter.unusedVariables false
namespace Go.Kx
theorem OctIs.mono {w : World} {S S' : Nat → Prop} {l : List UInt8} {v : Value} (h : OctIs w S l v) (hS : ∀ k, S k → S' k) : OctIs w S' l v := by
  rcases h with h | ⟨a, c, h1, h2, h3, h4⟩
  · exact .inl h
  · exact .inr ⟨a, c, h1, h2, hS _ h3, h4⟩
theorem SlIs.up {w : World} {B B' : Nat} {l : List UInt8} {v : Value} (h : SlIs w B l v) (hb : B ≤ B') : SlIs w B' l v := by
  obtain ⟨a, c, h1, h2, h3, h4, h5⟩ := h
  exact ⟨a, c, h1, h2, h3, h4, fun a' e => ⟨(h5 a' e).1, fun hne => Nat.lt_of_lt_of_le ((h5 a' e).2 hne) hb⟩⟩
theorem TrIs.up {w : World} {B B' : Nat} {t : Tr} {cs : List Value} (h : TrIs w B t cs) (hb : B ≤ B') : TrIs w B' t cs := by
  induction h with
  | mk cells hn hs hl hc hu ih =>
    refine .mk cells hn (hs.up hb) ?_ ih ?_
    · obtain ⟨a, c, h1, h2, h3, h4, h5⟩ := hl
      exact ⟨a, c, h1, h2, h3, h4, fun a' e => ⟨fun hne => Nat.lt_of_lt_of_le ((h5 a' e).1 hne) hb, (h5 a' e).2⟩⟩
    · obtain ⟨a, c, h1, h2, h3, h4, h5⟩ := hu
      refine ⟨a, c, h1, h2, h3, h4, fun a' e => ⟨fun hne => Nat.lt_of_lt_of_le ((h5 a' e).1 hne) hb, fun i x hx => ?_⟩⟩
      obtain ⟨vv, g1, g2, g3⟩ := (h5 a' e).2 i x hx
      exact ⟨vv, g1, g2, g3.up hb⟩
end Go.Kx
namespace Go.Kx
theorem Yi.arith' {P : Program} {S : World → Prop} {ρ : Operand → Value} {d : Option Tmp} {ty : TypeId} {pos : String} {af : Array Edge} {g : Option (Nat × Bool)} {x y : Operand} {op : BinOp} {t u : TypeId} {k : IntKind} {a b r : Int} (hr : arithI op k a b = some r) (hx : ρ x = .int k a) (hy : ρ y = .int k b) : Yi P S ρ ⟨d, .binOp op t x y u, ty, pos, af, g⟩ (.int k r) :=
  yi_of_OpK rfl fun w _ => OpK.arith hr hx hy ⟨rfl, rfl⟩
end Go.Kx
namespace Go.Kx
open Go.RowKit
/-- Ways through a region, where two operations may come in either order. -/
inductive Sc where
  | done | early (i : Nat) (s : Sc) | one (i : Nat) (s : Sc) | two (i j : Nat) (s t : Sc)
def oneK (P : Program) (ops : Array Oper) (S : World → Prop) (i : Nat) (σ : Fm) (w : World) (H : Fm → World → Prop) : Prop :=
  match ops[i]? with
  | some o => (wantedB o ops σ = true ∧ OpK P (ev σ) o w fun v w' => S w' ∧ H (upd σ o.dst v) w') ∨ (wantedB o ops σ = false ∧ S w ∧ H (upd σ o.dst undef) w)
  | none => False
def HT (P : Program) (ops : Array Oper) (S : World → Prop) : Sc → Fm → World → (Fm → World → Prop) → Prop
  | .done, σ, w, K => K σ w
  | .early i s, σ, w, K =>
    match ops[i]? with
    | some o => ∃ v, ((wantedB o ops σ = true ∧ Yi P S (ev σ) o v) ∨ (wantedB o ops σ = false ∧ v = undef)) ∧ HT P ops S s (upd σ o.dst v) w K
    | none => False
  | .one i s, σ, w, K => oneK P ops S i σ w fun σ' w' => HT P ops S s σ' w' K
  | .two i j s t, σ, w, K => (oneK P ops S i σ w fun σ' w' => HT P ops S s σ' w' K) ∧ (oneK P ops S j σ w fun σ' w' => HT P ops S t σ' w' K)
def Sc.len : Sc → Nat
  | .done => 0
  | .early _ s => s.len + 1
  | .one _ s => s.len + 1
  | .two _ _ s t => max s.len t.len + 1
def schedT (ops : Array Oper) : Array Bool → Sc → Bool
  | listed, .done => (Region.ready .any ops listed).isEmpty
  | listed, .early i s => Region.free .any ops listed i && (Region.ready .any ops listed).contains i && schedT ops (listed.setIfInBounds i true) s
  | listed, .one i s => Region.ready .any ops listed == [i] && schedT ops (listed.setIfInBounds i true) s
  | listed, .two i j s t => Region.ready .any ops listed == [i, j] && schedT ops (listed.setIfInBounds i true) s && schedT ops (listed.setIfInBounds j true) t

theorem HT.wp {P : Program} {ops : Array Oper} {S : World → Prop} {n : Nat} {Q : Exit → Act → World → Prop} (hsel : Region.noSelect ops = true) (hQ : ∀ c a w, ¬ Q (.panic c) a w)
    (hs : ops.toList.all (fun o => okDst n o.dst) = true) : ∀ (l : Sc) (fuel : Nat) (listed : Array Bool) (a : Act) (σ : Fm) (w : World) (K : Fm → World → Prop), l.len ≤ fuel → S w → Fr n a σ →
    schedT ops listed l = true → HT P ops S l σ w K → (∀ a' σ' w', Fr n a' σ' → K σ' w' → Q .normal a' w') → wpAnyH P .any ops Q S fuel listed a w := by
  have okd : ∀ (i : Nat) (o : Oper), ops[i]? = some o → okDst n o.dst = true := by
    intro i o ho
    exact List.all_eq_true.1 hs o (by rw [← Array.mem_def]; exact Array.mem_of_getElem? ho)
  have one : ∀ {i : Nat} {s : Sc} {fuel : Nat} {listed : Array Bool} {a : Act} {σ : Fm} {w : World} {K : Fm → World → Prop},
      (∀ (a : Act) (σ : Fm) (w : World), S w → Fr n a σ → HT P ops S s σ w K → wpAnyH P .any ops Q S fuel (listed.setIfInBounds i true) a w) → Fr n a σ → oneK P ops S i σ w (fun σ' w' => HT P ops S s σ' w' K) →
      wpOp P ops Q i (fun a' w' => S w' ∧ wpAnyH P .any ops Q S fuel (listed.setIfInBounds i true) a' w') a w := by
    intro i s fuel listed a σ w K ih ha h
    unfold oneK at h
    split at h
    · rename_i o ho
      unfold wpOp
      simp only [ho]
      rcases h with ⟨hw, h'⟩ | ⟨hw, hS', h'⟩
      · rw [wanted_eq ha, if_pos hw]
        exact .inl (wp_of_OpK ha h' fun v w' ⟨hS', h''⟩ => ⟨hS', ih _ _ _ hS' (ha.put (okd _ o ho) v) h''⟩)
      · rw [wanted_eq ha, if_neg (by rw [hw]; simp)]
        exact ⟨hS', ih _ _ _ hS' (ha.put (okd _ o ho) undef) h'⟩
    · exact h.elim
  intro l
  induction l with
  | done =>
    intro fuel listed a σ w K _ hS ha hb h hk
    simp only [schedT, List.isEmpty_iff] at hb
    exact wpAnyH_done hb (hk a σ w ha h) fuel
  | early i s ih =>
    intro fuel listed a σ w K hl hS ha hb h hk
    cases fuel with
    | zero => simp [Sc.len] at hl
    | succ fuel =>
      simp only [Sc.len] at hl
      simp only [schedT, Bool.and_eq_true] at hb
      obtain ⟨⟨h1, h2⟩, h3⟩ := hb
      unfold HT at h
      split at h
      · rename_i o ho
        obtain ⟨v, hy, h'⟩ := h
        refine wpAnyH_take (v := v) ho hsel h1 h2 (fun c a w hq => (hQ _ _ _ hq).elim) (hy.imp (fun ⟨hw, hy⟩ => ⟨by rw [wanted_eq ha]; exact hw, by rw [ha.eval]; exact hy⟩) (fun ⟨hw, hv⟩ => ⟨by rw [wanted_eq ha]; exact hw, hv⟩)) hS ?_
        exact ih fuel _ _ _ w K (by omega) hS (ha.put (okd i o ho) v) h3 h' hk
      · exact h.elim
  | one i s ih =>
    intro fuel listed a σ w K hl hS ha hb h hk
    cases fuel with
    | zero => simp [Sc.len] at hl
    | succ fuel =>
      simp only [Sc.len] at hl
      simp only [schedT, Bool.and_eq_true, beq_iff_eq] at hb
      refine wpAnyH_all (rs := [i]) hb.1 (by simp) fun j hj => ?_
      obtain rfl : j = i := by simpa using hj
      exact one (fun a σ w hS ha h => ih fuel _ a σ w K (by omega) hS ha hb.2 h hk) ha h
  | two i j s t ihs iht =>
    intro fuel listed a σ w K hl hS ha hb h hk
    cases fuel with
    | zero => simp [Sc.len] at hl
    | succ fuel =>
      simp only [Sc.len] at hl
      simp only [schedT, Bool.and_eq_true, beq_iff_eq] at hb
      obtain ⟨⟨h1, h2⟩, h3⟩ := hb
      refine wpAnyH_all (rs := [i, j]) h1 (by simp) fun k hk' => ?_
      rcases (by simpa using hk' : k = i ∨ k = j) with rfl | rfl
      · exact one (fun a σ w hS ha h => ihs fuel _ a σ w K (by omega) hS ha h2 h hk) ha h.1
      · exact one (fun a σ w hS ha h => iht fuel _ a σ w K (by omega) hS ha h3 h hk) ha h.2

theorem CWL.regT {P : Program} {n id : Nat} {ops : Array Oper} {cs : List Code} {σ : Fm} {w : World} {Q : Exit → Fm → World → Prop} (hm : P.follows .mixedOrders = true) (S : World → Prop) (l : Sc)
    (hb : (Region.noSelect ops && schedT ops (Array.replicate ops.size false) l && Nat.ble l.len ops.size) = true) (hS : S w.drew) (h : HT P ops S l σ w.drew fun σ' w' => CWL P n cs σ' w' Q) : CWL P n (.region id ops true :: cs) σ w Q := by
  refine CWL.cons ?_
  intro hs a ha
  simp only [Bool.and_eq_true] at hb
  refine wp_region_noPanic (wp_region_held (S := S) hm ?_)
  exact HT.wp (S := S) hb.1.1 (fun _ _ _ h => h) hs l _ _ a σ _ _ (Nat.le_of_ble_eq_true hb.2) hS ha hb.1.2 h fun a' σ' w' hf hK => ⟨σ', hf, hK⟩
section
variable {P : Program} {ops : Array Oper} {S : World → Prop} {i : Nat} {l : Sc} {o : Oper} {σ : Fm} {w : World} {K : Fm → World → Prop}
theorem HT.early_ {v : Value} (ho : ops[i]? = some o) (hw : wantedB o ops σ = true) (hy : Yi P S (ev σ) o v) (h : HT P ops S l (upd σ o.dst v) w K) : HT P ops S (.early i l) σ w K := by
  unfold HT; rw [ho]; exact ⟨v, .inl ⟨hw, hy⟩, h⟩
theorem oneK.mk {H : Fm → World → Prop} (ho : ops[i]? = some o) (hw : wantedB o ops σ = true) (h : OpK P (ev σ) o w fun v w' => S w' ∧ H (upd σ o.dst v) w') : oneK P ops S i σ w H := by
  unfold oneK; rw [ho]; exact .inl ⟨hw, h⟩
theorem oneK.no {H : Fm → World → Prop} (ho : ops[i]? = some o) (hw : wantedB o ops σ = false) (hS : S w) (h : H (upd σ o.dst undef) w) : oneK P ops S i σ w H := by
  unfold oneK; rw [ho]; exact .inr ⟨hw, hS, h⟩
theorem HT.none_ (ho : ops[i]? = some o) (hw : wantedB o ops σ = false) (h : HT P ops S l (upd σ o.dst undef) w K) : HT P ops S (.early i l) σ w K := by
  unfold HT; rw [ho]; exact ⟨undef, .inr ⟨hw, rfl⟩, h⟩
theorem Yi.build {ρ : Operand → Value} {d : Option Tmp} {ty : TypeId} {pos : String} {af : Array Edge} {g : Option (Nat × Bool)} {t : TypeId} {parts : Array (Nat × Operand)} {cells : Array Value}
    (hb : P.built t (parts.toList.map fun x => (x.1, ρ x.2)) = some cells) : Yi P S ρ ⟨d, .build t parts, ty, pos, af, g⟩ (.agg cells) := by
  intro w _
  have hr := run_build (P := P) w t (parts.map fun x => (x.1, ρ x.2)) cells (by rw [Array.toList_map]; exact hb)
  simp only [execOp, Sem.run_bind]
  rw [show (Array.map (fun (x : Nat × Operand) => match x with | (i, x) => (i, ρ x)) parts) = parts.map fun x => (x.1, ρ x.2) from rfl, hr]
  rfl
end
end Go.Kx
namespace Go.Kx
theorem Yi.len {P : Program} {S : World → Prop} {ρ : Operand → Value} {d : Option Tmp} {ty : TypeId} {pos : String} {af : Array Edge} {g : Option (Nat × Bool)} {x : Operand} {t e : TypeId} {a : Option Addr} {n c : Nat} (ht : P.underlying t = some (.slice e)) (hx : ρ x = .slice a n c) : Yi P S ρ ⟨d, .call ⟨.builtin .len, #[x], #[t]⟩, ty, pos, af, g⟩ (.int .i64 n) := by
  intro w _
  simp [execOp, resolve, invoke, builtin, Builtin.len_, run_underlying ht, hx, goInt]
end Go.Kx
