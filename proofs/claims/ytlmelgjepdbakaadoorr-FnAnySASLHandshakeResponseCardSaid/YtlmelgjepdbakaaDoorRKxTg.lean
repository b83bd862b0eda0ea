/- Maps of tags: laid, asked, written. -/
import Derived.Test.YtlmelgjepdbakaaDoorRKxRd2
import Derived.WalkSpells
namespace Go.Kx
open Go.RowKit
set_option linter.unusedSimpArgs false
set_option linter.unusedVariables false

theorem All2.at_ {α β : Type} {R : α → β → Prop} : ∀ {l : List α} {m : List β}, All2 R l m → ∀ (i : Nat) (a : α) (b : β), l[i]? = some a → m[i]? = some b → R a b
  | _, _, .nil, i, a, b, h, _ => by simp at h
  | _, _, .cons hr ht, 0, a, b, h1, h2 => by simp at h1 h2; subst h1; subst h2; exact hr
  | _, _, .cons hr ht, i + 1, a, b, h1, h2 => by simp at h1 h2; exact ht.at_ i a b h1 h2
theorem All2.of_get {α β : Type} {R : α → β → Prop} : ∀ {l : List α} {m : List β}, l.length = m.length → (∀ (i : Nat) (a : α) (b : β), l[i]? = some a → m[i]? = some b → R a b) → All2 R l m
  | [], [], _, _ => .nil
  | a :: l, b :: m, h, hr => .cons (hr 0 a b rfl rfl) (All2.of_get (by simpa using h) fun i a b h1 h2 => hr (i + 1) a b (by simpa using h1) (by simpa using h2))
  | [], _ :: _, h, _ => by simp at h
  | _ :: _, [], h, _ => by simp at h

/-- What a tag holds. -/
def OctIs (w : World) (S : Nat → Prop) (x : List UInt8) (v : Value) : Prop := (v = .slice none 0 0 ∧ x = []) ∨ ∃ a c, v = .slice (some a) x.length c ∧ x.length ≤ c ∧ S a.block ∧ Oct w a x
theorem SrcIs.oct {w : World} {S S' : Nat → Prop} {l : List UInt8} {v : Value} (h : SrcIs w S l v) (hS : ∀ k, S k → S' k) : OctIs w S' l v := by
  rcases h with h | ⟨a, c, h1, h2, _, h4, h5⟩
  · exact .inl h
  · exact .inr ⟨a, c, h1, h2, hS _ h4, h5⟩

/-- A map with one entry more, or another value. -/
def putEntry (es : Array MapEntry) (clk : Nat) (j : Option Nat) (k : Nat) (v : Value) : Obj :=
  match j with
  | some j => .map (es.modify j fun e => { e with key := .int .u32 k, val := v }) clk
  | none => .map (es.push { key := .int .u32 k, val := v, born := clk }) (clk + 1)

section
variable {P : Program} {ρ : Operand → Value} {w : World} {K : Value → World → Prop} {d : Option Tmp} {ty : TypeId} {pos : String} {af : Array Edge} {g : Option (Nat × Bool)}
theorem OpK.makeMap {t : TypeId} (h : K (.map (some w.heap.size)) (w.alloc (.map #[] 0))) : OpK P ρ ⟨d, .makeMap t none, ty, pos, af, g⟩ w K := by
  simp [OpK, execOp, Instr.makeMap, newObj, After]
  exact h
theorem OpK.eqNilMap {x : Operand} {t k e u : TypeId} {r : Option Nat} (ht : P.underlying t = some (.map k e)) (hx : ρ x = .map r) (hn : ρ (.const (.map none)) = .map none) (h : K (.bool r.isNone) w) :
    OpK P ρ ⟨d, .binOp .eql t x (.const (.map none)) u, ty, pos, af, g⟩ w K := by
  have hr := run_eql_map_nil (P := P) w t k e r ht
  simp only [OpK, execOp, hx, hn, eqGuard, Sem.run_bind]
  simp [hr, After]
  exact h

/-- A tag is set in a map: what the map says then. -/
theorem OpK.mapTag {x y z : Operand} {t kt et : TypeId} {r : Nat} {es : Array MapEntry} {clk k : Nat} {v : Value} {S : Nat → Prop} {l : List (Nat × List UInt8)} {xs : List UInt8} (ht : P.underlying t = some (.map kt et)) (hk : P.underlying kt = some (.int .u32)) (hx : ρ x = .map (some r)) (hy : ρ y = .int .u32 (k : Int)) (hz : ρ z = v) (hr : w.heap[r]? = some (.map es clk))
    (hn : (l.map (·.1)).Nodup ∧ MapKept.Stamped es clk) (hA : All2 (TagAt w S) es.toList l) (hSr : ¬ S r) (hk4 : k < 4294967296) (hv : OctIs w S xs v)
    (h : ∀ w' es' clk', w'.heap.size = w.heap.size → w'.heap[r]? = some (.map es' clk') → Ch (fun i => i = r) w w' → ((setTag l k xs).map (·.1)).Nodup ∧ MapKept.Stamped es' clk' → All2 (TagAt w' S) es'.toList (setTag l k xs) → K undef w') : OpK P ρ ⟨d, .mapUpdate t x y z, ty, pos, af, g⟩ w K := by
  have hkey : MapKept.IsKey (.int .u32) (.int .u32 (k : Int)) := rfl
  have hlen := hA.len
  have hkeys : ∀ e ∈ es.toList, MapKept.IsKey (.int .u32) e.key := by
    intro e he
    obtain ⟨i, hi⟩ := List.mem_iff_getElem?.1 he
    have hlt : i < l.length := by rw [← hlen]; exact (List.getElem?_eq_some_iff.1 hi).1
    have := (hA.at_ i e l[i] hi (List.getElem?_eq_getElem hlt)).1
    rw [this]
    rfl
  have hlt : r < w.heap.size := (Array.getElem?_eq_some_iff.1 hr).1
  -- the world behind it
  have hset : ∀ o : Obj, ({ w with heap := w.heap.setIfInBounds r o } : World).heap.size = w.heap.size ∧ ({ w with heap := w.heap.setIfInBounds r o } : World).heap[r]? = some o ∧ Ch (fun i => i = r) w { w with heap := w.heap.setIfInBounds r o } := by
    intro o
    refine ⟨by simp, (MapKept.heap_set hr).1, ⟨rfl, rfl, rfl, by simp, fun i hi hne => (MapKept.heap_set hr).2 i hne⟩⟩
  have keepT : ∀ (o : Obj) {e : MapEntry} {x : Nat × List UInt8}, TagAt w S e x → TagAt { w with heap := w.heap.setIfInBounds r o } S e x := fun o e x hT => hT.keep fun i hi => (MapKept.heap_set hr).2 i fun e => hSr (e ▸ hi)
  have newT : ∀ (o : Obj) (b : Nat), TagAt { w with heap := w.heap.setIfInBounds r o } S { key := .int .u32 (k : Int), val := v, born := b } (k, xs) := by
    intro o b
    refine ⟨rfl, hk4, ?_⟩
    rcases hv with ⟨h1, h2⟩ | ⟨a, c, h1, h2, h3, h4⟩
    · exact .inl ⟨h1, h2⟩
    · exact .inr ⟨a, c, h1, h2, h3, h4.keep ((MapKept.heap_set hr).2 _ fun e => hSr (e ▸ h3))⟩
  rcases MapKept.findNow_spec hkey es.toList 0 hkeys with ⟨h1, h2⟩ | ⟨j, e, h1, h2, h3⟩
  · have hrun : (Instr.mapUpdate t (.map (some r)) (.int .u32 (k : Int)) v).run P w = .ok () { w with heap := w.heap.setIfInBounds r (.map (es.push { key := .int .u32 (k : Int), val := v, born := clk }) (clk + 1)) } := by
      simp [Instr.mapUpdate, run_underlying ht, MapKept.run_getObj_map hr, MapKept.run_checkKey hk hkey, MapKept.run_findKey hk h1, MapKept.run_setObj_map _ hr, Result.andThen]
    have hne : ∀ y ∈ l, y.1 ≠ k := by
      intro y hy e
      obtain ⟨i, hi⟩ := List.mem_iff_getElem?.1 hy
      have hil : i < es.toList.length := by rw [hlen]; exact (List.getElem?_eq_some_iff.1 hi).1
      have := (hA.at_ i es.toList[i] y (List.getElem?_eq_getElem hil) hi).1
      exact h2 _ (List.getElem_mem hil) (by rw [this, e])
    have hst : setTag l k xs = l ++ [(k, xs)] := setTag_new hne
    simp only [OpK, execOp, hx, hy, hz, Sem.run_bind, hrun, Result.andThen_ok, Sem.run_pure, After]
    obtain ⟨q1, q2, q3⟩ := hset (.map (es.push { key := .int .u32 (k : Int), val := v, born := clk }) (clk + 1))
    refine h _ _ _ q1 q2 q3 ⟨?_, MapKept.stamped_push hn.2 h2⟩ ?_
    · rw [hst, List.map_append, List.nodup_append]
      refine ⟨hn.1, by simp, fun a ha b hb => ?_⟩
      simp only [List.map_cons, List.map_nil, List.mem_singleton] at hb
      subst hb
      obtain ⟨y, hy, rfl⟩ := List.mem_map.1 ha
      exact hne y hy
    · rw [hst, Array.toList_push]
      refine All2.of_get (by simp [hlen]) fun i a b ha hb => ?_
      by_cases hi : i < es.toList.length
      · rw [List.getElem?_append_left hi] at ha
        rw [List.getElem?_append_left (by omega)] at hb
        exact keepT _ (hA.at_ i a b ha hb)
      · rw [List.getElem?_append_right (by omega)] at ha hb
        rw [← hlen] at hb
        have : i - es.toList.length = 0 := by
          rcases Nat.eq_zero_or_pos (i - es.toList.length) with h0 | h0
          · exact h0
          · rw [List.getElem?_eq_none (by simp only [List.length_cons, List.length_nil]; omega)] at ha; cases ha
        rw [this] at ha hb
        cases ha
        cases hb
        exact newT _ _
  · simp only [Nat.zero_add] at h1
    have hj : es[j]? = some e := by simpa using h2
    have hjl : j < l.length := by rw [← hlen]; exact (List.getElem?_eq_some_iff.1 h2).1
    have hlj : l[j]? = some l[j] := List.getElem?_eq_getElem hjl
    have hkj : l[j].1 = k := by
      have := (hA.at_ j e l[j] h2 hlj).1
      rw [h3] at this
      simp only [Value.int.injEq] at this
      omega
    have hrun : (Instr.mapUpdate t (.map (some r)) (.int .u32 (k : Int)) v).run P w = .ok () { w with heap := w.heap.setIfInBounds r (.map (es.modify j fun e => { e with key := .int .u32 (k : Int), val := v }) clk) } := by
      simp [Instr.mapUpdate, run_underlying ht, MapKept.run_getObj_map hr, MapKept.run_checkKey hk hkey, MapKept.run_findKey hk h1, hj, h3, MapKept.run_keyThatStays hkey, MapKept.run_setObj_map _ hr, Result.andThen]
    have hst : setTag l k xs = l.map fun e => if e.1 == k then (k, xs) else e := by
      unfold setTag
      rw [if_pos]
      rw [List.any_eq_true]
      exact ⟨l[j], List.getElem_mem hjl, by simpa using hkj⟩
    simp only [OpK, execOp, hx, hy, hz, Sem.run_bind, hrun, Result.andThen_ok, Sem.run_pure, After]
    obtain ⟨q1, q2, q3⟩ := hset (.map (es.modify j fun e => { e with key := .int .u32 (k : Int), val := v }) clk)
    refine h _ _ _ q1 q2 q3 ⟨?_, MapKept.stamped_modify hn.2 j _ (fun _ _ => rfl) fun e' _ he' => by rw [hj] at he'; cases he'; exact h3.symm⟩ ?_
    · rw [hst, List.map_map]
      have : (fun x : Nat × List UInt8 => x.1) ∘ (fun e => if (e.1 == k) = true then (k, xs) else e) = fun e => e.1 := by
        funext e
        simp only [Function.comp]
        split
        · rename_i he; exact (beq_iff_eq.1 he).symm
        · rfl
      rw [this]
      exact hn.1
    · rw [hst]
      refine All2.of_get (by simp [hlen]) fun i a b ha hb => ?_
      simp only [Array.getElem?_toList, Array.getElem?_modify] at ha
      rw [List.getElem?_map] at hb
      obtain ⟨b0, hb0, rfl⟩ := Option.map_eq_some_iff.1 hb
      by_cases hi : j = i
      · subst hi
        rw [if_pos rfl, hj] at ha
        simp only [Option.map_some, Option.some.injEq] at ha
        subst ha
        have : b0 = l[j] := by rw [hlj] at hb0; cases hb0; rfl
        subst this
        rw [if_pos (by simpa using hkj)]
        have := newT (.map (es.modify j fun e => { e with key := .int .u32 (k : Int), val := v }) clk) e.born
        exact this
      · rw [if_neg hi] at ha
        have hne : b0.1 ≠ k := by
          intro e
          have hil : i < l.length := (List.getElem?_eq_some_iff.1 hb0).1
          have e1 : (l.map (·.1))[i]? = some k := by rw [List.getElem?_map, hb0]; exact congrArg some e
          have e2 : (l.map (·.1))[j]? = some k := by rw [List.getElem?_map, hlj]; exact congrArg some hkj
          obtain ⟨g1, g2⟩ := List.getElem?_eq_some_iff.1 e1
          obtain ⟨g3, g4⟩ := List.getElem?_eq_some_iff.1 e2
          have hpw := List.pairwise_iff_getElem.1 hn.1
          rcases Nat.lt_or_gt_of_ne hi with h5 | h5
          · exact hpw j i g3 g1 h5 (g4.trans g2.symm)
          · exact hpw i j g1 g3 h5 (g2.trans g4.symm)
        rw [if_neg (by simpa using hne)]
        exact keepT _ (hA.at_ i a b0 (by simpa using ha) hb0)
end
end Go.Kx
namespace Go.Kx
open Go.RowKit
set_option linter.unusedSimpArgs false
set_option linter.unusedVariables false
/-- A map of tags: its octets lie in blocks of S, itself in one of N. -/
def TM (w : World) (S N : Nat → Prop) (c : Value) (l : List (Nat × List UInt8)) : Prop :=
  (c = .map none ∧ l = []) ∨ ∃ r es clk, c = .map (some r) ∧ N r ∧ w.heap[r]? = some (.map es clk) ∧ ((l.map (·.1)).Nodup ∧ MapKept.Stamped es clk) ∧ All2 (TagAt w S) es.toList l
theorem TM.keep {w w' : World} {S N N' : Nat → Prop} {c : Value} {l : List (Nat × List UInt8)} (h : TM w S N c l) (hS : ∀ k, S k → w'.heap[k]? = w.heap[k]?) (hN : ∀ k, N k → w'.heap[k]? = w.heap[k]? ∧ N' k) : TM w' S N' c l := by
  rcases h with h | ⟨r, es, clk, h1, h2, h3, h4, h5⟩
  · exact .inl h
  · exact .inr ⟨r, es, clk, h1, (hN r h2).2, ((hN r h2).1).trans h3, h4, forall2_imp (fun _ _ h => h.keep hS) h5⟩
theorem TM.rep {w : World} {S N S' : Nat → Prop} {c : Value} {l : List (Nat × List UInt8)} (h : TM w S N c l) (hS : ∀ k, S k → S' k) (hN : ∀ k, N k → S' k) : Rep w S' .tags (.tags l) [c] := by
  rcases h with ⟨rfl, rfl⟩ | ⟨r, es, clk, rfl, h2, h3, h4, h5⟩
  · exact .inl ⟨rfl, rfl⟩
  · exact .inr ⟨r, es, clk, rfl, hN r h2, h3, h4, forall2_imp (fun _ _ h => h.mono hS) h5⟩
theorem OctIs.keep {w w' : World} {S : Nat → Prop} {x : List UInt8} {v : Value} (h : OctIs w S x v) (hS : ∀ k, S k → w'.heap[k]? = w.heap[k]?) : OctIs w' S x v := by
  rcases h with h | ⟨a, c, h1, h2, h3, h4⟩
  · exact .inl h
  · exact .inr ⟨a, c, h1, h2, h3, h4.keep (hS _ h3)⟩
theorem OpK.sliceArr {P : Program} {ρ : Operand → Value} {w : World} {K : Value → World → Prop} {d : Option Tmp} {ty : TypeId} {pos : String} {af : Array Edge} {gd : Option (Nat × Bool)} {x : Operand} {t e : TypeId} {n : Nat} {a : Addr}
    (ht : P.underlying t = some (.array n e)) (hi : (P.info? e).isSome = true) (hx : ρ x = .pointer (some a)) (h : K (.slice (some a) n n) w) : OpK P ρ ⟨d, .slice t x none none none, ty, pos, af, gd⟩ w K := by
  obtain ⟨i, hi⟩ := Option.isSome_iff_exists.1 hi
  have e1 : (if n = 0 then a else a.add 0) = a := by
    split
    · rfl
    · exact addr_add_zero a
  simp [OpK, execOp, hx, Instr.sliceAt, run_underlying ht, Instr.sureAddr, Instr.sliceBounds, sizeOf, typeInfo, hi, After]
  have e2 : (if n = 0 then a else a.add 0) = a := e1
  first | exact e2 ▸ h | (rw [e2]; exact h)
theorem Yi.sliceArr {P : Program} {S : World → Prop} {ρ : Operand → Value} {d : Option Tmp} {ty : TypeId} {pos : String} {af : Array Edge} {gd : Option (Nat × Bool)} {x : Operand} {t e : TypeId} {n : Nat} {a : Addr}
    (ht : P.underlying t = some (.array n e)) (hi : (P.info? e).isSome = true) (hx : ρ x = .pointer (some a)) : Yi P S ρ ⟨d, .slice t x none none none, ty, pos, af, gd⟩ (.slice (some a) n n) := yi_of_OpK rfl fun w _ => OpK.sliceArr ht hi hx ⟨rfl, rfl⟩
/-- Octets are copied into a new row of as many, or of none. -/
theorem OpK.copyOct {P : Program} {ρ : Operand → Value} {w : World} {K : Value → World → Prop} {d : Option Tmp} {ty : TypeId} {pos : String} {af : Array Edge} {gd : Option (Nat × Bool)} {x y : Operand} {t u e : TypeId} {g : Nat} {n : Nat} {S : Nat → Prop} {l : List UInt8} {v : Value} {tG : TypeId} {cells : List Value}
    (ht : P.underlying t = some (.slice e)) (hi : (P.info? e).map (·.size) = some 1) (hx : ρ x = .slice (some ⟨g, 0, none⟩) n n) (hy : ρ y = v) (hv : SrcIs w S l v) (hl : l.length = n ∨ l = []) (hb : Blk w g tG cells) (hn : cells.length = n)
    (h : ∀ r, K r (w.setCells g 0 (l.map bv))) : OpK P ρ ⟨d, .call ⟨.builtin .copy, #[x, y], #[t, u]⟩, ty, pos, af, gd⟩ w K := by
  rcases hv with ⟨rfl, rfl⟩ | ⟨a, c, rfl, h2, h3, h4, hO⟩
  · have hr : ∃ r, (Builtin.copy_ #[t, u] ty #[.slice (some ⟨g, 0, none⟩) n n, .slice none 0 0]).run P w = .ok r w := by
      obtain ⟨i, hi, hs⟩ := Option.map_eq_some_iff.1 hi
      simp [Builtin.copy_, run_underlying ht, Builtin.lenOf, Builtin.firstCells, sizeOf, typeInfo, hi, hs, storeCells]
    obtain ⟨r, hr⟩ := hr
    simp only [OpK, execOp, resolve, invoke, builtin, Sem.run_bind, Sem.run_pure, Result.andThen_ok, List.map_toArray, List.map_cons, List.map_nil, hx, hy, hr, After]
    exact h r
  · have hmin : (l.map bv).length = Nat.min l.length n := by
      rw [List.length_map]
      rcases hl with hl | hl
      · rw [hl]; exact (Nat.min_self n).symm
      · subst hl; simp
    have hle : l.length ≤ n := by rcases hl with hl | hl; omega; (subst hl; simp)
    have hr := run_copy_cells (P := P) w t u ty e g 0 n n a l.length c (l.map bv) ht hi hmin (fun j v hv => by
        rw [List.getElem?_map] at hv
        obtain ⟨b, hb', rfl⟩ := Option.map_eq_some_iff.1 hv
        exact hO j b hb') (fun j hj => by
        rw [hb.cell, List.getElem?_eq_getElem (by rw [List.length_map] at hj; omega)]
        rfl) (fun j _ => hb.free _) (bv_one l)
    simp only [OpK, execOp, resolve, invoke, builtin, Sem.run_bind, Sem.run_pure, Result.andThen_ok, List.map_toArray, List.map_cons, List.map_nil, hx, hy, hr, After]
    exact h _
end Go.Kx
namespace Go.Kx
open Go.RowKit
set_option linter.unusedSimpArgs false
set_option linter.unusedVariables false
def uuZ (P : Program) (t : TypeId) : Bool := uuOk P t && (match P.info? t with | some i => (match i.zero with | some z => cellsEq z.cells.toList (zeroC .uuid) | none => false) | none => false)
theorem uuZ_spec {P : Program} {t : TypeId} (h : uuZ P t = true) : uuOk P t = true ∧ ∃ e i z, P.underlying t = some (.array 16 e) ∧ P.info? t = some i ∧ i.size = 16 ∧ i.zero = some z ∧ z.cells = ((List.replicate 16 (0 : UInt8)).map bv).toArray := by
  unfold uuZ at h
  rw [Bool.and_eq_true] at h
  obtain ⟨e, i, z, h1, h2, h3, h4, h5⟩ := uuOk_spec h.1
  refine ⟨h.1, e, i, z, h1, h2, h3, h4, ?_⟩
  have h6 := h.2
  rw [h2] at h6
  simp only [h4] at h6
  have := cellsEq_eq h6
  apply Array.ext'
  rw [this]
  rfl
theorem run_loadUu {P : Program} {w : World} {t e g : Nat} {i : TypeInfo} {l : List UInt8} {cells : List Value} (hu : P.underlying t = some (.array 16 e)) (hi : P.info? t = some i) (hs : i.size = 16) (hl : l.length = 16) (hb : Blk w g t cells) (hc : cells = l.map bv) :
    (loadVar t ⟨g, 0, none⟩).run P w = .ok (.agg (l.map bv).toArray) w :=
  run_loadVar_mid w g 0 t (l.map bv) _ (fun j v hv => by rw [Nat.zero_add, hb.cell, hc]; exact hv) hu rfl (by rw [hi]; simp [hs, hl])
theorem splice_all {cs c : List Value} (h : c.length = cs.length) : spl cs 0 c = c := by
  simp only [spl, List.take_zero, List.nil_append, Nat.zero_add]
  rw [List.drop_of_length_le (by omega), List.append_nil]
theorem run_loadTags {P : Program} {w : World} {t : TypeId} {g : Nat} {c : Value} {d : TypeDesc} (hu : P.underlying t = some d) (hd : d.isRow = true) (hi : (P.info? t).map (·.size) = some 1) (hb : Blk w g t [c]) : (loadVar t ⟨g, 0, none⟩).run P w = .ok (.agg #[c]) w :=
  run_loadVar_mid w g 0 t [c] d (fun j v hv => by rw [Nat.zero_add, hb.cell]; exact hv) hu hd hi
theorem OpK.loadRow {P : Program} {ρ : Operand → Value} {w : World} {K : Value → World → Prop} {d : Option Tmp} {ty : TypeId} {pos : String} {af : Array Edge} {gd : Option (Nat × Bool)} {x : Operand} {t : TypeId} {g : Nat} {c : Value} {ds : TypeDesc}
    (hu : P.underlying t = some ds) (hd : ds.isRow = true) (hi : (P.info? t).map (·.size) = some 1) (hx : ρ x = .pointer (some ⟨g, 0, none⟩)) (hb : Blk w g t [c]) (h : K (.agg #[c]) w) : OpK P ρ ⟨d, .load t x, ty, pos, af, gd⟩ w K := by
  have hr := run_loadTags (P := P) hu hd hi hb
  simp only [OpK, execOp, hx, Instr.loadAt, Instr.sureAddr, Sem.run_bind, Sem.run_pure, Result.andThen_ok, hr, After]
  exact h
theorem rdSpan_some {n : Int} {s : Rs} {x : List UInt8} (h : (rdSpan n s).1 = some x) : (x.length : Int) = n := by
  unfold rdSpan at h
  split at h
  · cases h
  · rename_i h0
    unfold rdN at h
    split at h
    · cases h
    · simp only [Option.some.injEq] at h
      rw [← h, List.length_take]
      omega
theorem rdSpan_none {n : Int} {s : Rs} (h : (rdSpan n s).1 = none) : (rdSpan n s).2.bad = true := by
  unfold rdSpan at h ⊢
  split at h
  · rename_i h0; rw [if_pos h0]; rfl
  · rename_i h0
    rw [if_neg h0]
    unfold rdN at h ⊢
    split at h
    · rename_i h1; rw [if_pos h1]; rfl
    · cases h
/-- How a tag is read after another. -/
theorem got_tag {k : Nat} {t : List (Nat × List UInt8)} {s s1 s2 s3 s4 : Rs} {key size : Nat} {x : List UInt8} {b : List (Nat × List UInt8)} (h1 : Got s.o decUv key s1) (h2 : Got s1.o decUv size s2) (h3 : Got s2.o (decSpan (size : Int)) x s3) (h4 : Got s3.o (decTagsN k (setTag t key x)) b s4) : Got s.o (decTagsN (k + 1) t) b s4 :=
  Got.bind (d1 := decUv) (d2 := fun (key : Nat) l => (decUv l).bind fun s => (decSpan (s.1 : Int) s.2).bind fun x => decTagsN k (setTag t key x.1) x.2) h1
    (Got.bind (d1 := decUv) (d2 := fun (size : Nat) l => (decSpan (size : Int) l).bind fun x => decTagsN k (setTag t key x.1) x.2) h2 (Got.bind (d1 := decSpan (size : Int)) (d2 := fun x l => decTagsN k (setTag t key x) l) h3 h4))
end Go.Kx
namespace Go.Kx
theorem CWL.regG {P : Program} {n : Nat} {c : Code} {cs : List Code} {σ : Fm} {w : World} {Q : Exit → Fm → World → Prop} {ops : List (Op × TypeId)} {b : List (Nat × Nat)} (hc : canR c = some ⟨ops, b⟩)
    (h : RC P ops 0 (enF σ) w fun ρ w' => ∀ σ', σ' = outF b ρ → CWL P n cs σ' w' Q) : CWL P n (c :: cs) σ w Q := by
  have mono : ∀ (l : List (Op × TypeId)) (k : Nat) {ρ : Fm} {w : World} {K K' : Fm → World → Prop}, RC P l k ρ w K → (∀ ρ w, K ρ w → K' ρ w) → RC P l k ρ w K' := by
    intro l
    induction l with
    | nil => intro k ρ w K K' h hk; exact hk _ _ h
    | cons o l ih =>
      intro k ρ w K K' h hk
      obtain ⟨op, ty⟩ := o
      exact After.mono h fun v w' h' => ih _ h' hk
  exact CWL.reg hc (mono ops 0 h fun ρ w' h' => h' _ rfl)
end Go.Kx
namespace Go.Kx
theorem CWL.nil_ {P : Program} {n : Nat} {σ : Fm} {w : World} {Q : Exit → Fm → World → Prop} (h : Q .normal σ w) : CWL P n [] σ w Q := h
end Go.Kx
