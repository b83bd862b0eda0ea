/- Library texts Tg Again Again2, joined. -/
import Derived.Test.YthcpchmmpnakaaaGreatDoorKxRd2
import Derived.WalkSpells
/- Maps of tags: laid, asked, written. -/
namespace Go.Kx
open Go.RowKit
set_option linter.unusedSimpArgs false
set_option linter.unusedVariables false

theorem All2.at_ {α β : Type} {R : α → β → Prop} : ∀ {l : List α} {m : List β}, All2 R l m → ∀ (i : Nat) (a : α) (b : β), l[i]? = some a → m[i]? = some b → R a b
  | _, _, .nil, i, a, b, h, _ => by simp at h
  | _, _, .cons hr ht, 0, a, b, h1, h2 => by simp at h1 h2; subst h1; subst h2; exact hr
  | _, _, .cons hr ht, i + 1, a, b, h1, h2 => by simp at h1 h2; exact ht.at_ i a b h1 h2
theorem All2.of_get {α β : Type} {R : α → β → Prop} : ∀ {l : List α} {m : List β}, l.length = m.length → (∀ (i : Nat) (a : α) (b : β), l[i]? = some a → m[i]? = some b → R a b) → All2 R l m
  | [], [], _, _ => .nil
  | a :: l, b :: m, h, hr => .cons (hr 0 a b rfl rfl) (All2.of_get (by simpa using h) fun i a b h1 h2 => hr (i + 1) a b (by simpa using h1) (by simpa using h2))
  | [], _ :: _, h, _ => by simp at h
  | _ :: _, [], h, _ => by simp at h

/-- What a tag holds. -/
def OctIs (w : World) (S : Nat → Prop) (x : List UInt8) (v : Value) : Prop := (v = .slice none 0 0 ∧ x = []) ∨ ∃ a c, v = .slice (some a) x.length c ∧ x.length ≤ c ∧ S a.block ∧ Oct w a x
theorem SrcIs.oct {w : World} {S S' : Nat → Prop} {l : List UInt8} {v : Value} (h : SrcIs w S l v) (hS : ∀ k, S k → S' k) : OctIs w S' l v := by
  rcases h with h | ⟨a, c, h1, h2, _, h4, h5⟩
  · exact .inl h
  · exact .inr ⟨a, c, h1, h2, hS _ h4, h5⟩

/-- A map with one entry more, or another value. -/
def putEntry (es : Array MapEntry) (clk : Nat) (j : Option Nat) (k : Nat) (v : Value) : Obj :=
  match j with
  | some j => .map (es.modify j fun e => { e with key := .int .u32 k, val := v }) clk
  | none => .map (es.push { key := .int .u32 k, val := v, born := clk }) (clk + 1)

section
variable {P : Program} {ρ : Operand → Value} {w : World} {K : Value → World → Prop} {d : Option Tmp} {ty : TypeId} {pos : String} {af : Array Edge} {g : Option (Nat × Bool)}
theorem OpK.makeMap {t : TypeId} (h : K (.map (some w.heap.size)) (w.alloc (.map #[] 0))) : OpK P ρ ⟨d, .makeMap t none, ty, pos, af, g⟩ w K := by
  simp [OpK, execOp, Instr.makeMap, newObj, After]
  exact h
theorem OpK.eqNilMap {x : Operand} {t k e u : TypeId} {r : Option Nat} (ht : P.underlying t = some (.map k e)) (hx : ρ x = .map r) (hn : ρ (.const (.map none)) = .map none) (h : K (.bool r.isNone) w) :
    OpK P ρ ⟨d, .binOp .eql t x (.const (.map none)) u, ty, pos, af, g⟩ w K := by
  have hr := run_eql_map_nil (P := P) w t k e r ht
  simp only [OpK, execOp, hx, hn, eqGuard, Sem.run_bind]
  simp [hr, After]
  exact h

/-- A tag is set in a map: what the map says then. -/
theorem OpK.mapTag {x y z : Operand} {t kt et : TypeId} {r : Nat} {es : Array MapEntry} {clk k : Nat} {v : Value} {S : Nat → Prop} {l : List (Nat × List UInt8)} {xs : List UInt8} (ht : P.underlying t = some (.map kt et)) (hk : P.underlying kt = some (.int .u32)) (hx : ρ x = .map (some r)) (hy : ρ y = .int .u32 (k : Int)) (hz : ρ z = v) (hr : w.heap[r]? = some (.map es clk))
    (hn : (l.map (·.1)).Nodup ∧ MapKept.Stamped es clk) (hA : All2 (TagAt w S) es.toList l) (hSr : ¬ S r) (hk4 : k < 4294967296) (hv : OctIs w S xs v)
    (h : ∀ w' es' clk', w'.heap.size = w.heap.size → w'.heap[r]? = some (.map es' clk') → Ch (fun i => i = r) w w' → ((setTag l k xs).map (·.1)).Nodup ∧ MapKept.Stamped es' clk' → All2 (TagAt w' S) es'.toList (setTag l k xs) → K undef w') : OpK P ρ ⟨d, .mapUpdate t x y z, ty, pos, af, g⟩ w K := by
  have hkey : MapKept.IsKey (.int .u32) (.int .u32 (k : Int)) := rfl
  have hlen := hA.len
  have hkeys : ∀ e ∈ es.toList, MapKept.IsKey (.int .u32) e.key := by
    intro e he
    obtain ⟨i, hi⟩ := List.mem_iff_getElem?.1 he
    have hlt : i < l.length := by rw [← hlen]; exact (List.getElem?_eq_some_iff.1 hi).1
    have := (hA.at_ i e l[i] hi (List.getElem?_eq_getElem hlt)).1
    rw [this]
    rfl
  have hlt : r < w.heap.size := (Array.getElem?_eq_some_iff.1 hr).1
  -- the world behind it
  have hset : ∀ o : Obj, ({ w with heap := w.heap.setIfInBounds r o } : World).heap.size = w.heap.size ∧ ({ w with heap := w.heap.setIfInBounds r o } : World).heap[r]? = some o ∧ Ch (fun i => i = r) w { w with heap := w.heap.setIfInBounds r o } := by
    intro o
    refine ⟨by simp, (MapKept.heap_set hr).1, ⟨rfl, rfl, rfl, by simp, fun i hi hne => (MapKept.heap_set hr).2 i hne⟩⟩
  have keepT : ∀ (o : Obj) {e : MapEntry} {x : Nat × List UInt8}, TagAt w S e x → TagAt { w with heap := w.heap.setIfInBounds r o } S e x := fun o e x hT => hT.keep fun i hi => (MapKept.heap_set hr).2 i fun e => hSr (e ▸ hi)
  have newT : ∀ (o : Obj) (b : Nat), TagAt { w with heap := w.heap.setIfInBounds r o } S { key := .int .u32 (k : Int), val := v, born := b } (k, xs) := by
    intro o b
    refine ⟨rfl, hk4, ?_⟩
    rcases hv with ⟨h1, h2⟩ | ⟨a, c, h1, h2, h3, h4⟩
    · exact .inl ⟨h1, h2⟩
    · exact .inr ⟨a, c, h1, h2, h3, h4.keep ((MapKept.heap_set hr).2 _ fun e => hSr (e ▸ h3))⟩
  rcases MapKept.findNow_spec hkey es.toList 0 hkeys with ⟨h1, h2⟩ | ⟨j, e, h1, h2, h3⟩
  · have hrun : (Instr.mapUpdate t (.map (some r)) (.int .u32 (k : Int)) v).run P w = .ok () { w with heap := w.heap.setIfInBounds r (.map (es.push { key := .int .u32 (k : Int), val := v, born := clk }) (clk + 1)) } := by
      simp [Instr.mapUpdate, run_underlying ht, MapKept.run_getObj_map hr, MapKept.run_checkKey hk hkey, MapKept.run_findKey hk h1, MapKept.run_setObj_map _ hr, Result.andThen]
    have hne : ∀ y ∈ l, y.1 ≠ k := by
      intro y hy e
      obtain ⟨i, hi⟩ := List.mem_iff_getElem?.1 hy
      have hil : i < es.toList.length := by rw [hlen]; exact (List.getElem?_eq_some_iff.1 hi).1
      have := (hA.at_ i es.toList[i] y (List.getElem?_eq_getElem hil) hi).1
      exact h2 _ (List.getElem_mem hil) (by rw [this, e])
    have hst : setTag l k xs = l ++ [(k, xs)] := setTag_new hne
    simp only [OpK, execOp, hx, hy, hz, Sem.run_bind, hrun, Result.andThen_ok, Sem.run_pure, After]
    obtain ⟨q1, q2, q3⟩ := hset (.map (es.push { key := .int .u32 (k : Int), val := v, born := clk }) (clk + 1))
    refine h _ _ _ q1 q2 q3 ⟨?_, MapKept.stamped_push hn.2 h2⟩ ?_
    · rw [hst, List.map_append, List.nodup_append]
      refine ⟨hn.1, by simp, fun a ha b hb => ?_⟩
      simp only [List.map_cons, List.map_nil, List.mem_singleton] at hb
      subst hb
      obtain ⟨y, hy, rfl⟩ := List.mem_map.1 ha
      exact hne y hy
    · rw [hst, Array.toList_push]
      refine All2.of_get (by simp [hlen]) fun i a b ha hb => ?_
      by_cases hi : i < es.toList.length
      · rw [List.getElem?_append_left hi] at ha
        rw [List.getElem?_append_left (by omega)] at hb
        exact keepT _ (hA.at_ i a b ha hb)
      · rw [List.getElem?_append_right (by omega)] at ha hb
        rw [← hlen] at hb
        have : i - es.toList.length = 0 := by
          rcases Nat.eq_zero_or_pos (i - es.toList.length) with h0 | h0
          · exact h0
          · rw [List.getElem?_eq_none (by simp only [List.length_cons, List.length_nil]; omega)] at ha; cases ha
        rw [this] at ha hb
        cases ha
        cases hb
        exact newT _ _
  · simp only [Nat.zero_add] at h1
    have hj : es[j]? = some e := by simpa using h2
    have hjl : j < l.length := by rw [← hlen]; exact (List.getElem?_eq_some_iff.1 h2).1
    have hlj : l[j]? = some l[j] := List.getElem?_eq_getElem hjl
    have hkj : l[j].1 = k := by
      have := (hA.at_ j e l[j] h2 hlj).1
      rw [h3] at this
      simp only [Value.int.injEq] at this
      omega
    have hrun : (Instr.mapUpdate t (.map (some r)) (.int .u32 (k : Int)) v).run P w = .ok () { w with heap := w.heap.setIfInBounds r (.map (es.modify j fun e => { e with key := .int .u32 (k : Int), val := v }) clk) } := by
      simp [Instr.mapUpdate, run_underlying ht, MapKept.run_getObj_map hr, MapKept.run_checkKey hk hkey, MapKept.run_findKey hk h1, hj, h3, MapKept.run_keyThatStays hkey, MapKept.run_setObj_map _ hr, Result.andThen]
    have hst : setTag l k xs = l.map fun e => if e.1 == k then (k, xs) else e := by
      unfold setTag
      rw [if_pos]
      rw [List.any_eq_true]
      exact ⟨l[j], List.getElem_mem hjl, by simpa using hkj⟩
    simp only [OpK, execOp, hx, hy, hz, Sem.run_bind, hrun, Result.andThen_ok, Sem.run_pure, After]
    obtain ⟨q1, q2, q3⟩ := hset (.map (es.modify j fun e => { e with key := .int .u32 (k : Int), val := v }) clk)
    refine h _ _ _ q1 q2 q3 ⟨?_, MapKept.stamped_modify hn.2 j _ (fun _ _ => rfl) fun e' _ he' => by rw [hj] at he'; cases he'; exact h3.symm⟩ ?_
    · rw [hst, List.map_map]
      have : (fun x : Nat × List UInt8 => x.1) ∘ (fun e => if (e.1 == k) = true then (k, xs) else e) = fun e => e.1 := by
        funext e
        simp only [Function.comp]
        split
        · rename_i he; exact (beq_iff_eq.1 he).symm
        · rfl
      rw [this]
      exact hn.1
    · rw [hst]
      refine All2.of_get (by simp [hlen]) fun i a b ha hb => ?_
      simp only [Array.getElem?_toList, Array.getElem?_modify] at ha
      rw [List.getElem?_map] at hb
      obtain ⟨b0, hb0, rfl⟩ := Option.map_eq_some_iff.1 hb
      by_cases hi : j = i
      · subst hi
        rw [if_pos rfl, hj] at ha
        simp only [Option.map_some, Option.some.injEq] at ha
        subst ha
        have : b0 = l[j] := by rw [hlj] at hb0; cases hb0; rfl
        subst this
        rw [if_pos (by simpa using hkj)]
        have := newT (.map (es.modify j fun e => { e with key := .int .u32 (k : Int), val := v }) clk) e.born
        exact this
      · rw [if_neg hi] at ha
        have hne : b0.1 ≠ k := by
          intro e
          have hil : i < l.length := (List.getElem?_eq_some_iff.1 hb0).1
          have e1 : (l.map (·.1))[i]? = some k := by rw [List.getElem?_map, hb0]; exact congrArg some e
          have e2 : (l.map (·.1))[j]? = some k := by rw [List.getElem?_map, hlj]; exact congrArg some hkj
          obtain ⟨g1, g2⟩ := List.getElem?_eq_some_iff.1 e1
          obtain ⟨g3, g4⟩ := List.getElem?_eq_some_iff.1 e2
          have hpw := List.pairwise_iff_getElem.1 hn.1
          rcases Nat.lt_or_gt_of_ne hi with h5 | h5
          · exact hpw j i g3 g1 h5 (g4.trans g2.symm)
          · exact hpw i j g1 g3 h5 (g2.trans g4.symm)
        rw [if_neg (by simpa using hne)]
        exact keepT _ (hA.at_ i a b0 (by simpa using ha) hb0)
end
end Go.Kx
namespace Go.Kx
open Go.RowKit
set_option linter.unusedSimpArgs false
set_option linter.unusedVariables false
/-- A map of tags: its octets lie in blocks of S, itself in one of N. -/
def TM (w : World) (S N : Nat → Prop) (c : Value) (l : List (Nat × List UInt8)) : Prop :=
  (c = .map none ∧ l = []) ∨ ∃ r es clk, c = .map (some r) ∧ N r ∧ w.heap[r]? = some (.map es clk) ∧ ((l.map (·.1)).Nodup ∧ MapKept.Stamped es clk) ∧ All2 (TagAt w S) es.toList l
theorem TM.keep {w w' : World} {S N N' : Nat → Prop} {c : Value} {l : List (Nat × List UInt8)} (h : TM w S N c l) (hS : ∀ k, S k → w'.heap[k]? = w.heap[k]?) (hN : ∀ k, N k → w'.heap[k]? = w.heap[k]? ∧ N' k) : TM w' S N' c l := by
  rcases h with h | ⟨r, es, clk, h1, h2, h3, h4, h5⟩
  · exact .inl h
  · exact .inr ⟨r, es, clk, h1, (hN r h2).2, ((hN r h2).1).trans h3, h4, forall2_imp (fun _ _ h => h.keep hS) h5⟩
theorem TM.rep {w : World} {S N S' : Nat → Prop} {c : Value} {l : List (Nat × List UInt8)} (h : TM w S N c l) (hS : ∀ k, S k → S' k) (hN : ∀ k, N k → S' k) : Rep w S' .tags (.tags l) [c] := by
  rcases h with ⟨rfl, rfl⟩ | ⟨r, es, clk, rfl, h2, h3, h4, h5⟩
  · exact .inl ⟨rfl, rfl⟩
  · exact .inr ⟨r, es, clk, rfl, hN r h2, h3, h4, forall2_imp (fun _ _ h => h.mono hS) h5⟩
theorem OctIs.keep {w w' : World} {S : Nat → Prop} {x : List UInt8} {v : Value} (h : OctIs w S x v) (hS : ∀ k, S k → w'.heap[k]? = w.heap[k]?) : OctIs w' S x v := by
  rcases h with h | ⟨a, c, h1, h2, h3, h4⟩
  · exact .inl h
  · exact .inr ⟨a, c, h1, h2, h3, h4.keep (hS _ h3)⟩
theorem OpK.sliceArr {P : Program} {ρ : Operand → Value} {w : World} {K : Value → World → Prop} {d : Option Tmp} {ty : TypeId} {pos : String} {af : Array Edge} {gd : Option (Nat × Bool)} {x : Operand} {t e : TypeId} {n : Nat} {a : Addr}
    (ht : P.underlying t = some (.array n e)) (hi : (P.info? e).isSome = true) (hx : ρ x = .pointer (some a)) (h : K (.slice (some a) n n) w) : OpK P ρ ⟨d, .slice t x none none none, ty, pos, af, gd⟩ w K := by
  obtain ⟨i, hi⟩ := Option.isSome_iff_exists.1 hi
  have e1 : (if n = 0 then a else a.add 0) = a := by
    split
    · rfl
    · exact addr_add_zero a
  simp [OpK, execOp, hx, Instr.sliceAt, run_underlying ht, Instr.sureAddr, Instr.sliceBounds, sizeOf, typeInfo, hi, After]
  have e2 : (if n = 0 then a else a.add 0) = a := e1
  first | exact e2 ▸ h | (rw [e2]; exact h)
theorem Yi.sliceArr {P : Program} {S : World → Prop} {ρ : Operand → Value} {d : Option Tmp} {ty : TypeId} {pos : String} {af : Array Edge} {gd : Option (Nat × Bool)} {x : Operand} {t e : TypeId} {n : Nat} {a : Addr}
    (ht : P.underlying t = some (.array n e)) (hi : (P.info? e).isSome = true) (hx : ρ x = .pointer (some a)) : Yi P S ρ ⟨d, .slice t x none none none, ty, pos, af, gd⟩ (.slice (some a) n n) := yi_of_OpK rfl fun w _ => OpK.sliceArr ht hi hx ⟨rfl, rfl⟩
/-- Octets are copied into a new row of as many, or of none. -/
theorem OpK.copyOct {P : Program} {ρ : Operand → Value} {w : World} {K : Value → World → Prop} {d : Option Tmp} {ty : TypeId} {pos : String} {af : Array Edge} {gd : Option (Nat × Bool)} {x y : Operand} {t u e : TypeId} {g : Nat} {n : Nat} {S : Nat → Prop} {l : List UInt8} {v : Value} {tG : TypeId} {cells : List Value}
    (ht : P.underlying t = some (.slice e)) (hi : (P.info? e).map (·.size) = some 1) (hx : ρ x = .slice (some ⟨g, 0, none⟩) n n) (hy : ρ y = v) (hv : SrcIs w S l v) (hl : l.length = n ∨ l = []) (hb : Blk w g tG cells) (hn : cells.length = n)
    (h : ∀ r, K r (w.setCells g 0 (l.map bv))) : OpK P ρ ⟨d, .call ⟨.builtin .copy, #[x, y], #[t, u]⟩, ty, pos, af, gd⟩ w K := by
  rcases hv with ⟨rfl, rfl⟩ | ⟨a, c, rfl, h2, h3, h4, hO⟩
  · have hr : ∃ r, (Builtin.copy_ #[t, u] ty #[.slice (some ⟨g, 0, none⟩) n n, .slice none 0 0]).run P w = .ok r w := by
      obtain ⟨i, hi, hs⟩ := Option.map_eq_some_iff.1 hi
      simp [Builtin.copy_, run_underlying ht, Builtin.lenOf, Builtin.firstCells, sizeOf, typeInfo, hi, hs, storeCells]
    obtain ⟨r, hr⟩ := hr
    simp only [OpK, execOp, resolve, invoke, builtin, Sem.run_bind, Sem.run_pure, Result.andThen_ok, List.map_toArray, List.map_cons, List.map_nil, hx, hy, hr, After]
    exact h r
  · have hmin : (l.map bv).length = Nat.min l.length n := by
      rw [List.length_map]
      rcases hl with hl | hl
      · rw [hl]; exact (Nat.min_self n).symm
      · subst hl; simp
    have hle : l.length ≤ n := by rcases hl with hl | hl; omega; (subst hl; simp)
    have hr := run_copy_cells (P := P) w t u ty e g 0 n n a l.length c (l.map bv) ht hi hmin (fun j v hv => by
        rw [List.getElem?_map] at hv
        obtain ⟨b, hb', rfl⟩ := Option.map_eq_some_iff.1 hv
        exact hO j b hb') (fun j hj => by
        rw [hb.cell, List.getElem?_eq_getElem (by rw [List.length_map] at hj; omega)]
        rfl) (fun j _ => hb.free _) (bv_one l)
    simp only [OpK, execOp, resolve, invoke, builtin, Sem.run_bind, Sem.run_pure, Result.andThen_ok, List.map_toArray, List.map_cons, List.map_nil, hx, hy, hr, After]
    exact h _
end Go.Kx
namespace Go.Kx
open Go.RowKit
set_option linter.unusedSimpArgs false
set_option linter.unusedVariables false
def uuZ (P : Program) (t : TypeId) : Bool := uuOk P t && (match P.info? t with | some i => (match i.zero with | some z => cellsEq z.cells.toList (zeroC .uuid) | none => false) | none => false)
theorem uuZ_spec {P : Program} {t : TypeId} (h : uuZ P t = true) : uuOk P t = true ∧ ∃ e i z, P.underlying t = some (.array 16 e) ∧ P.info? t = some i ∧ i.size = 16 ∧ i.zero = some z ∧ z.cells = ((List.replicate 16 (0 : UInt8)).map bv).toArray := by
  unfold uuZ at h
  rw [Bool.and_eq_true] at h
  obtain ⟨e, i, z, h1, h2, h3, h4, h5⟩ := uuOk_spec h.1
  refine ⟨h.1, e, i, z, h1, h2, h3, h4, ?_⟩
  have h6 := h.2
  rw [h2] at h6
  simp only [h4] at h6
  have := cellsEq_eq h6
  apply Array.ext'
  rw [this]
  rfl
theorem run_loadUu {P : Program} {w : World} {t e g : Nat} {i : TypeInfo} {l : List UInt8} {cells : List Value} (hu : P.underlying t = some (.array 16 e)) (hi : P.info? t = some i) (hs : i.size = 16) (hl : l.length = 16) (hb : Blk w g t cells) (hc : cells = l.map bv) :
    (loadVar t ⟨g, 0, none⟩).run P w = .ok (.agg (l.map bv).toArray) w :=
  run_loadVar_mid w g 0 t (l.map bv) _ (fun j v hv => by rw [Nat.zero_add, hb.cell, hc]; exact hv) hu rfl (by rw [hi]; simp [hs, hl])
theorem splice_all {cs c : List Value} (h : c.length = cs.length) : spl cs 0 c = c := by
  simp only [spl, List.take_zero, List.nil_append, Nat.zero_add]
  rw [List.drop_of_length_le (by omega), List.append_nil]
theorem run_loadTags {P : Program} {w : World} {t : TypeId} {g : Nat} {c : Value} {d : TypeDesc} (hu : P.underlying t = some d) (hd : d.isRow = true) (hi : (P.info? t).map (·.size) = some 1) (hb : Blk w g t [c]) : (loadVar t ⟨g, 0, none⟩).run P w = .ok (.agg #[c]) w :=
  run_loadVar_mid w g 0 t [c] d (fun j v hv => by rw [Nat.zero_add, hb.cell]; exact hv) hu hd hi
theorem OpK.loadRow {P : Program} {ρ : Operand → Value} {w : World} {K : Value → World → Prop} {d : Option Tmp} {ty : TypeId} {pos : String} {af : Array Edge} {gd : Option (Nat × Bool)} {x : Operand} {t : TypeId} {g : Nat} {c : Value} {ds : TypeDesc}
    (hu : P.underlying t = some ds) (hd : ds.isRow = true) (hi : (P.info? t).map (·.size) = some 1) (hx : ρ x = .pointer (some ⟨g, 0, none⟩)) (hb : Blk w g t [c]) (h : K (.agg #[c]) w) : OpK P ρ ⟨d, .load t x, ty, pos, af, gd⟩ w K := by
  have hr := run_loadTags (P := P) hu hd hi hb
  simp only [OpK, execOp, hx, Instr.loadAt, Instr.sureAddr, Sem.run_bind, Sem.run_pure, Result.andThen_ok, hr, After]
  exact h
theorem rdSpan_some {n : Int} {s : Rs} {x : List UInt8} (h : (rdSpan n s).1 = some x) : (x.length : Int) = n := by
  unfold rdSpan at h
  split at h
  · cases h
  · rename_i h0
    unfold rdN at h
    split at h
    · cases h
    · simp only [Option.some.injEq] at h
      rw [← h, List.length_take]
      omega
theorem rdSpan_none {n : Int} {s : Rs} (h : (rdSpan n s).1 = none) : (rdSpan n s).2.bad = true := by
  unfold rdSpan at h ⊢
  split at h
  · rename_i h0; rw [if_pos h0]; rfl
  · rename_i h0
    rw [if_neg h0]
    unfold rdN at h ⊢
    split at h
    · rename_i h1; rw [if_pos h1]; rfl
    · cases h
/-- How a tag is read after another. -/
theorem got_tag {k : Nat} {t : List (Nat × List UInt8)} {s s1 s2 s3 s4 : Rs} {key size : Nat} {x : List UInt8} {b : List (Nat × List UInt8)} (h1 : Got s.o decUv key s1) (h2 : Got s1.o decUv size s2) (h3 : Got s2.o (decSpan (size : Int)) x s3) (h4 : Got s3.o (decTagsN k (setTag t key x)) b s4) : Got s.o (decTagsN (k + 1) t) b s4 :=
  Got.bind (d1 := decUv) (d2 := fun (key : Nat) l => (decUv l).bind fun s => (decSpan (s.1 : Int) s.2).bind fun x => decTagsN k (setTag t key x.1) x.2) h1
    (Got.bind (d1 := decUv) (d2 := fun (size : Nat) l => (decSpan (size : Int) l).bind fun x => decTagsN k (setTag t key x.1) x.2) h2 (Got.bind (d1 := decSpan (size : Int)) (d2 := fun x l => decTagsN k (setTag t key x) l) h3 h4))
end Go.Kx
namespace Go.Kx
theorem CWL.regG {P : Program} {n : Nat} {c : Code} {cs : List Code} {σ : Fm} {w : World} {Q : Exit → Fm → World → Prop} {ops : List (Op × TypeId)} {b : List (Nat × Nat)} (hc : canR c = some ⟨ops, b⟩)
    (h : RC P ops 0 (enF σ) w fun ρ w' => ∀ σ', σ' = outF b ρ → CWL P n cs σ' w' Q) : CWL P n (c :: cs) σ w Q := by
  have mono : ∀ (l : List (Op × TypeId)) (k : Nat) {ρ : Fm} {w : World} {K K' : Fm → World → Prop}, RC P l k ρ w K → (∀ ρ w, K ρ w → K' ρ w) → RC P l k ρ w K' := by
    intro l
    induction l with
    | nil => intro k ρ w K K' h hk; exact hk _ _ h
    | cons o l ih =>
      intro k ρ w K K' h hk
      obtain ⟨op, ty⟩ := o
      exact After.mono h fun v w' h' => ih _ h' hk
  exact CWL.reg hc (mono ops 0 h fun ρ w' h' => h' _ rfl)
end Go.Kx
namespace Go.Kx
theorem CWL.nil_ {P : Program} {n : Nat} {σ : Fm} {w : World} {Q : Exit → Fm → World → Prop} (h : Q .normal σ w) : CWL P n [] σ w Q := h
end Go.Kx

/- What the thin package does with a message: a new one, its version, read, written. -/
namespace Go.Kx
open Go.RowKit
set_option linter.unusedSimpArgs false
set_option linter.unusedVariables false

/-! ### A store where no reader is near -/
theorem storeB_sound {P : Program} {n : Nat} {L : List Nat} {p k vs : Nat} {T ty : Ty} {c : Code} (h : storeOf P L p T k ty c = some vs) {rest : List Code} {σ : Fm} {w : World} {Q : Exit → Fm → World → Prop} {S : Nat → Prop} {g o : Nat} {tG : TypeId} {v : V} {cells : List Value}
    (hp : σ p = .pointer (some ⟨g, o, none⟩)) (hb : Blk w g tG cells) (hr : Rep w S T v ((cells.drop o).take T.size)) (hl : o + T.size ≤ cells.length) (hg : ¬ S g) {u : V} {cu : List Value} (hu : Rep w S ty u cu) (hv : Sv cu (σ vs))
    (hk : ∀ σ' w' c', Blk w' g tG (spl cells o c') → Rep w' S T (v.put k u) c' → Ch (fun k => k = g) w w' → (∀ t ∈ L, σ' t = σ t) → CWL P n rest σ' w' Q) : CWL P n (c :: rest) σ w Q := by
  unfold storeOf at h
  split at h
  · rename_i p2 ty1 tid k' ty2 st v2 ty3 b hc
    split at h
    · rename_i ty' off hf
      split at h
      · rename_i hh
        simp only [Option.some.injEq] at h
        subst h
        simp only [Bool.and_eq_true, beq_iff_eq, decide_eq_true_eq] at hh
        obtain ⟨⟨⟨⟨⟨rfl, hoff⟩, rfl⟩, h2⟩, hst⟩, hfree⟩ := hh
        obtain ⟨vs, rfl⟩ : ∃ vs, v2 = 2 * vs := ⟨v2 / 2, by have := Nat.div_add_mod v2 2; rw [h2] at this; exact this.symm⟩
        have hvs : 2 * vs / 2 = vs := Nat.mul_div_cancel_left vs (by decide)
        rw [hvs] at hv
        obtain ⟨_, _, _, _, hbd⟩ := hr.fld hf
        have hsz := hr.size
        have hcu := hu.size
        refine CWL.reg hc ?_
        refine OpK.nilCheck (a := ⟨g, o, none⟩) (by simp only [ev_tmp, enF_two]; exact hp) ?_
        refine OpK.fieldAddr hoff (a := ⟨g, o, none⟩) (by simp [upd]) ?_
        refine OpK.storeV (c := cu) (v := σ vs) (g := g) (o := o + off) (tG := tG) (cells := cells) (by rw [hst, hcu]) (by simp [upd, add_at]) ?_ hv (rep_one hu) hb (by omega) ?_
        · simp only [ev_tmp, Nat.mul_zero, Nat.zero_add, Nat.mul_one, Nat.reduceAdd, Nat.reduceMul]
          rw [upd_odd _ _ _ _ (by omega), upd_odd _ _ _ _ (by omega), enF_two]
        · simp only [RC]
          have hb2 := hb.setCells cu (o + off) (by omega)
          have hk2 : ∀ k, S k → (w.setCells g (o + off) cu).heap[k]? = w.heap[k]? := fun k hS => setCells_heap g _ _ _ _ fun e => hg (e ▸ hS)
          refine hk _ _ (spl ((cells.drop o).take T.size) off cu) ?_ ((hr.put hf hu).keep hk2) (setCells_ch _ _ _ _) fun t ht => ?_
          · have e : spl cells o (spl ((cells.drop o).take T.size) off cu) = spl cells (o + off) cu := by
              have hl2 : (spl ((cells.drop o).take T.size) off cu).length = T.size := by rw [spl_len (by omega)]; exact hsz
              apply List.ext_getElem?
              intro i
              rw [spl_get (by omega), spl_get (by omega), spl_get (by omega), hl2, List.getElem?_take, List.getElem?_drop]
              by_cases h1 : i < o
              · rw [if_pos h1, if_pos (show i < o + off by omega)]
              · rw [if_neg h1]
                by_cases h3 : i < o + T.size
                · rw [if_pos h3]
                  by_cases h4 : i - o < off
                  · rw [if_pos h4, if_pos (show i - o < T.size by omega), if_pos (show i < o + off by omega)]
                    congr 1; omega
                  · rw [if_neg h4, if_neg (show ¬ i < o + off by omega)]
                    by_cases h5 : i - o < off + cu.length
                    · rw [if_pos h5, if_pos (show i < o + off + cu.length by omega)]
                      congr 1; omega
                    · rw [if_neg h5, if_neg (show ¬ i < o + off + cu.length by omega), if_pos (show i - o < T.size by omega)]
                      congr 1; omega
                · rw [if_neg h3, if_neg (show ¬ i < o + off by omega), if_neg (show ¬ i < o + off + cu.length by omega)]
            rw [e]
            exact hb2
          · rw [outF_free hfree ht, upd_odd _ _ _ _ (by omega), upd_odd _ _ _ _ (by omega), upd_odd _ _ _ _ (by omega), enF_two]
      · cases h
    · cases h
  · cases h
end Go.Kx
namespace Go.Kx
open Go.RowKit
set_option linter.unusedSimpArgs false
set_option linter.unusedVariables false

/-! ### A new message -/
def allocOf (P : Program) (T : Ty) (c : Code) : Option (Nat × TypeId) :=
  match canR c with
  | some ⟨[(.alloc t, _)], (a, 1) :: _⟩ => match P.info? t with
    | some i => match i.zero with
      | some z => if cellsEq z.cells.toList (zeroC T) then some (a, t) else none
      | none => none
    | none => none
  | _ => none
theorem allocOf_sound {P : Program} {n : Nat} {T : Ty} {c : Code} {a : Nat} {t : TypeId} (h : allocOf P T c = some (a, t)) {rest : List Code} {σ : Fm} {w : World} {Q : Exit → Fm → World → Prop}
    (hk : ∀ σ', σ' a = .pointer (some ⟨w.heap.size, 0, none⟩) → CWL P n rest σ' (w.alloc (.cells (zeroC T).toArray t)) Q) : CWL P n (c :: rest) σ w Q := by
  unfold allocOf at h
  split at h
  · rename_i t' ty a' b hc
    split at h
    · rename_i i hi
      split at h
      · rename_i z hz
        split at h
        · rename_i hcells
          simp only [Option.some.injEq, Prod.mk.injEq] at h
          obtain ⟨rfl, rfl⟩ := h
          have hzc : z.cells = (zeroC T).toArray := by apply Array.ext'; rw [cellsEq_eq hcells]
          refine CWL.reg hc (OpK.allocArr hi hz ?_)
          rw [hzc]
          exact hk _ (by rw [outF_head]; simp [upd])
        · cases h
      · cases h
    · cases h
  · cases h

/-- 'v.Default()', where no reader is near. -/
def dfltB (P : Program) (tab : List (Nat × Rf)) (L : List Nat) (u : Nat) (T : Ty) (c : Code) : Option (List (Nat × V)) := dfltOf ⟨P, 0, tab, 0, .nilIface, 0, ⟨0, none, 0⟩, 0⟩ L u T c
theorem dfltB_sound {P : Program} {n : Nat} {tab : List (Nat × Rf)} {gE : Nat} {eV : Value} (hX : ∀ f a, rfAt tab f = some a → Callable P f ∧ RfOk P gE eV f a) {L : List Nat} {u : Nat} {T : Ty} {ps : List (Nat × V)} {c : Code} (h : dfltB P tab L u T c = some ps)
    {rest : List Code} {σ : Fm} {w : World} {Q : Exit → Fm → World → Prop} {S : Nat → Prop} {g o : Nat} {tG : TypeId} {v : V} {cells : List Value}
    (hu : σ u = .pointer (some ⟨g, o, none⟩)) (hb : Blk w g tG cells) (hr : Rep w S T v ((cells.drop o).take T.size)) (hl : o + T.size ≤ cells.length) (hg : ¬ S g)
    (hk : ∀ σ' w' c', Blk w' g tG (spl cells o c') → Rep w' S T (v.puts ps) c' → Ch (fun k => k = g) w w' → (∀ t ∈ L, σ' t = σ t) → CWL P n rest σ' w' Q) : CWL P n (c :: rest) σ w Q := by
  unfold dfltB dfltOf at h
  split at h
  · rename_i op ty b hc
    split at h
    · rename_i f u2 hop
      split at h
      · rename_i T' ps' htab
        split at h
        · rename_i hh
          simp only [Option.some.injEq] at h
          subst h
          simp only [Bool.and_eq_true, beq_iff_eq, decide_eq_true_eq] at hh
          obtain ⟨⟨rfl, rfl⟩, hfree⟩ := hh
          obtain ⟨hcall, hrf⟩ := hX f _ htab
          refine CWL.reg hc (OpK.asCall hop hcall rfl ?_)
          simp only [List.map_cons, List.map_nil, ev_tmp, enF_two, hu]
          refine (hrf w S g o tG cells v hb hr hl hg).mono fun en w' ⟨he, c', hb', hr', hc'⟩ => ⟨_, he, ?_⟩
          refine hk _ w' c' hb' hr' hc' fun t ht => ?_
          rw [outF_free hfree ht, upd_odd _ _ _ _ (by omega), enF_two]
        · cases h
      · cases h
    · cases h
  · cases h

def chkNp (P : Program) (tab : List (Nat × Rf)) (fn : Func) (T : Ty) : Option (TypeId × List (Nat × V)) :=
  match fn.body, resTmp fn with
  | some c, some res => if fits fn.ntmps c && wfT T then match flat c with
    | [c0, c1, c2, c3, .ret] => if isIdle [] c0 then match allocOf P T c1 with
      | some (a, t) => match dfltB P tab [a] a T c2, canR c3 with
        | some ps, some ⟨[], (r', s) :: _⟩ => if r' == res && s == 2 * a then some (t, ps) else none
        | _, _ => none
      | none => none
      else none
    | _ => none
    else none
  | _, _ => none

theorem chkNp_calls {P : Program} {tab : List (Nat × Rf)} {gE : Nat} {eV : Value} (hX : ∀ f a, rfAt tab f = some a → Callable P f ∧ RfOk P gE eV f a) {f : FuncId} {fn : Func} {T : Ty} {t : TypeId} {ps : List (Nat × V)} (hf : P.funcs[f]? = some fn) (h : chkNp P tab fn T = some (t, ps)) (w : World) :
    Calls P f #[] w fun en w' => ∃ cells, en = .returned (.pointer (some ⟨w.heap.size, 0, none⟩)) ∧ Blk w' w.heap.size t cells ∧ cells.length = T.size ∧ Rep w' (fun _ => False) T ((zeroV T).puts ps) cells ∧ Ch (fun _ => False) w w' := by
  unfold chkNp at h
  split at h
  · rename_i c res hbody hres
    split at h
    · rename_i hh
      simp only [Bool.and_eq_true] at hh
      split at h
      · rename_i c0 c1 c2 c3 hflat
        split at h
        · rename_i h0
          split at h
          · rename_i a t' hal
            split at h
            · rename_i ps' r' s b hdf hc3
              split at h
              · rename_i hrs
                simp only [Option.some.injEq, Prod.mk.injEq] at h
                obtain ⟨rfl, rfl⟩ := h
                simp only [Bool.and_eq_true, beq_iff_eq] at hrs
                obtain ⟨rfl, rfl⟩ := hrs
                refine (Calls.of_CW hf hbody hh.1 (by simp) (CW.of_flat ?_) (R := fun x w' => ∃ cells, x = .pointer (some ⟨w.heap.size, 0, none⟩) ∧ Blk w' w.heap.size t' cells ∧ cells.length = T.size ∧ Rep w' (fun _ => False) T ((zeroV T).puts ps') cells ∧ Ch (fun _ => False) w w')).mono fun en w' ⟨x, he, cells, hx, hR⟩ => ⟨cells, by rw [he, hx], hR⟩
                rw [hflat]
                refine CWL.idle h0 fun σ0 he0 => ?_
                refine allocOf_sound hal fun σ1 ha1 => ?_
                have hb1 := Blk.new w t' (zeroC T)
                have hlz := zeroC_len T
                refine dfltB_sound hX hdf (S := fun _ => False) (v := zeroV T) (o := 0) ha1 hb1 (by rw [List.drop_zero, List.take_of_length_le (by omega)]; exact rep_zero _ _ _ hh.2) (by omega) (fun h => h) fun σ2 w2 c' hb2 hr2 hc2 he2 => ?_
                refine CWL.reg hc3 ?_
                simp only [RC]
                refine CWL.ret ?_
                simp only [Ends]
                unfold resTmp at hres
                split at hres
                · rename_i t ht
                  simp only [Option.some.injEq] at hres
                  subst hres
                  have hcl := hr2.size
                  refine ⟨_, by simp only [resOf, ht]; rfl, c', ?_, ?_, hcl, hr2, ?_⟩
                  · rw [outF_head, enF_two, he2 a (by simp), ha1]
                  · rw [← splice_all (cs := zeroC T) (c := c') (by omega)]
                    exact hb2
                  · exact (Ch.alloc (fun _ => False) w _).trans hc2 fun i hi e => by omega
                · cases hres
              · cases h
            · cases h
          · cases h
        · cases h
      · cases h
    · cases h
  · cases h

/-! ### Its version -/
def chkSv (P : Program) (fn : Func) (T : Ty) : Bool :=
  match fn.body with
  | some c => fits fn.ntmps c && Nat.ble 2 fn.ntmps && fn.results.toList.isEmpty && match flat c with
    | [c0] => storeOf P [] 0 T 0 (.int .i16) c0 == some 1
    | _ => false
  | none => false
theorem chkSv_calls {P : Program} {f : FuncId} {fn : Func} {T : Ty} (hf : P.funcs[f]? = some fn) (h : chkSv P fn T = true) {w : World} {S : Nat → Prop} {g o : Nat} {tG : TypeId} {v : V} {cells : List Value} {ver : Int}
    (hb : Blk w g tG cells) (hr : Rep w S T v ((cells.drop o).take T.size)) (hl : o + T.size ≤ cells.length) (hg : ¬ S g) (hw : IntKind.i16.wrap ver = ver) :
    Calls P f #[.pointer (some ⟨g, o, none⟩), .int .i16 ver] w fun en w' => en = .returned (.tuple #[]) ∧ ∃ c', Blk w' g tG (spl cells o c') ∧ Rep w' S T (v.put 0 (.i ver)) c' ∧ Ch (fun k => k = g) w w' := by
  unfold chkSv at h
  split at h
  · rename_i c hbody
    simp only [Bool.and_eq_true, List.isEmpty_iff] at h
    obtain ⟨⟨⟨hfit, hn⟩, hres⟩, h⟩ := h
    split at h
    · rename_i c0 hflat
      rw [beq_iff_eq] at h
      refine (Calls.of_CW hf hbody hfit (by simpa using hn) (CW.of_flat ?_) (R := fun x w' => x = .tuple #[] ∧ ∃ c', Blk w' g tG (spl cells o c') ∧ Rep w' S T (v.put 0 (.i ver)) c' ∧ Ch (fun k => k = g) w w')).mono fun en w' ⟨x, he, hx, hR⟩ => ⟨by rw [he, hx], hR⟩
      rw [hflat]
      refine storeB_sound h rfl hb hr hl hg (u := .i ver) (cu := [.int .i16 ver]) ⟨rfl, hw⟩ (.inr rfl) fun σ' w' c' h1 h2 h3 _ => ?_
      refine CWL.nil_ ?_
      simp only [Ends]
      exact ⟨.tuple #[], by unfold resOf; rw [hres], rfl, c', h1, h2, h3⟩
    · cases h
  · cases h

/-! ### It is read -/
def chkRF (fn : Func) (rf : FuncId) : Bool :=
  match fn.body, resTmp fn with
  | some c, some res => fits fn.ntmps c && Nat.ble 2 fn.ntmps && match flat c with
    | [c0, c1, .ret] => isIdle [0, 1] c0 && match canR c1 with
      | some ⟨[(op, _)], (r', 1) :: _⟩ => match asCall op with
        | some (f, [.tmp 0, .tmp 2, .const (.bool false)]) => f == rf && r' == res
        | _ => false
      | _ => false
    | _ => false
  | _, _ => false
theorem chkRF_calls {P : Program} {f rf : FuncId} {fn : Func} (hf : P.funcs[f]? = some fn) (h : chkRF fn rf = true) (hc : Callable P rf) {w : World} {p src : Value} {R : Value → World → Prop}
    (hr : Calls P rf #[p, src, .bool false] w fun en w' => ∃ x, en = .returned x ∧ R x w') : Calls P f #[p, src] w fun en w' => ∃ x, en = .returned x ∧ R x w' := by
  unfold chkRF at h
  split at h
  · rename_i c res hbody hres
    simp only [Bool.and_eq_true] at h
    obtain ⟨⟨hfit, hn⟩, h⟩ := h
    split at h
    · rename_i c0 c1 hflat
      simp only [Bool.and_eq_true] at h
      obtain ⟨h0, h⟩ := h
      split at h
      · rename_i op ty r' b hcan
        split at h
        · rename_i f' hop
          simp only [Bool.and_eq_true, beq_iff_eq] at h
          obtain ⟨rfl, rfl⟩ := h
          refine Calls.of_CW hf hbody hfit (by simpa using hn) (CW.of_flat ?_)
          rw [hflat]
          refine CWL.idle h0 fun σ0 he0 => ?_
          have e0 : σ0 0 = p := (he0 0 (by simp)).trans rfl
          have e1 : σ0 1 = src := (he0 1 (by simp)).trans rfl
          refine CWL.reg hcan (OpK.asCall hop hc rfl ?_)
          simp only [List.map_cons, List.map_nil, ev_tmp, ev_const]
          rw [show enF σ0 0 = p from (enF_two σ0 0).trans e0, show enF σ0 2 = src from (enF_two σ0 1).trans e1]
          refine hr.mono fun en w' ⟨x, he, hR⟩ => ⟨x, he, ?_⟩
          refine CWL.ret ?_
          simp only [Ends]
          unfold resTmp at hres
          split at hres
          · rename_i t ht
            simp only [Option.some.injEq] at hres
            subst hres
            refine ⟨_, by simp only [resOf, ht]; rfl, ?_⟩
            rw [outF_head]
            simpa [upd] using hR
          · cases hres
        · cases h
      · cases h
    · cases h
  · cases h
end Go.Kx
namespace Go.Kx
open Go.RowKit
set_option linter.unusedSimpArgs false
set_option linter.unusedVariables false
theorem run_eqIn_nilIface {P : Program} {t : TypeId} {ms : Array (String × TypeId)} (w : World) (d : Nat) (ht : P.underlying t = some (.interface ms)) : (Op.equalIn (d + 1) t .nilIface .nilIface).run P w = .ok true w := by
  simp [Op.equalIn, run_underlying ht]
theorem run_eqIn_iface {P : Program} {t : TypeId} {ms : Array (String × TypeId)} (w : World) (d : Nat) (ht : P.underlying t = some (.interface ms)) (t' : TypeId) (y : Value) : (Op.equalIn (d + 1) t (.iface t' y) .nilIface).run P w = .ok false w := by
  simp [Op.equalIn, run_underlying ht]
theorem OpK.neqNilIface {P : Program} {ρ : Operand → Value} {w : World} {K : Value → World → Prop} {d : Option Tmp} {ty : TypeId} {pos : String} {af : Array Edge} {gd : Option (Nat × Bool)} {x : Operand} {t u : TypeId} {v : Value} {b : Bool} {ms : Array (String × TypeId)}
    (ht : P.underlying t = some (.interface ms)) (hx : ρ x = v) (hn : ρ (.const .nilIface) = .nilIface) (hv : (v = .nilIface ∧ b = false) ∨ (∃ t y, v = .iface t y) ∧ b = true) (h : K (.bool b) w) : OpK P ρ ⟨d, .binOp .neq t x (.const .nilIface) u, ty, pos, af, gd⟩ w K := by
  rcases hv with ⟨rfl, rfl⟩ | ⟨⟨t', y, rfl⟩, rfl⟩
  · have hr : (Op.equal t .nilIface .nilIface).run P w = .ok true w := run_eqIn_nilIface w 9999 ht
    simp [OpK, execOp, hx, hn, eqGuard, binOp, hr, After]
    exact h
  · have hr : (Op.equal t (.iface t' y) .nilIface).run P w = .ok false w := run_eqIn_iface w 9999 ht t' y
    simp [OpK, execOp, hx, hn, eqGuard, binOp, hr, After]
    exact h
end Go.Kx

/- A message is read and written again: what the thin package answers. -/
namespace Go.Kx
open Go.RowKit
set_option linter.unusedSimpArgs false
set_option linter.unusedVariables false

def isIface (P : Program) (t : TypeId) : Bool := match P.underlying t with | some (.interface _) => true | _ => false
theorem isIface_spec {P : Program} {t : TypeId} (h : isIface P t = true) : ∃ ms, P.underlying t = some (.interface ms) := by
  unfold isIface at h
  split at h
  · exact ⟨_, by assumption⟩
  · cases h
def isI16 (P : Program) (t : TypeId) : Bool := match P.underlying t with | some (.int .i16) => true | _ => false
theorem isI16_spec {P : Program} {t : TypeId} (h : isI16 P t = true) : P.underlying t = some (.int .i16) := by
  unfold isI16 at h
  split at h
  · assumption
  · cases h

structure AgF where
  np : FuncId
  sv : FuncId
  rf : FuncId
  at_ : FuncId

def resTwo (fn : Func) : Option (Nat × Nat) := match fn.results.toList with | [.tmp a, .tmp b] => some (a, b) | _ => none
/-- 'return nil, false' -/
def nilFalse (r : Nat × Nat) (cs : List Code) : Bool :=
  match cs with
  | [c, .ret] => match canR c with
    | some ⟨[(.assign (.const (.slice none 0 0)), _), (.assign (.const (.bool false)), _)], (r2, 3) :: (r1, 1) :: _⟩ => r1 == r.1 && r2 == r.2 && r1 != r2
    | _ => false
  | _ => false

def chkAg (P : Program) (e : TypeId) (fn : Func) (F : AgF) : Bool :=
  match fn.body, resTwo fn with
  | some c, some r => fits fn.ntmps c && Nat.ble 2 fn.ntmps && match flat c with
    | [c0, c1, c2, c3, .cond (.tmp t') A B, c4, .ret] => isIdle [0, 1] c0 && match canR c1, canR c2, canR c3, canR c4 with
      | some ⟨[(o1, _)], (v, 1) :: b1⟩, some ⟨[(.convert s16 t16 (.tmp 0), _), (o2, _)], b2⟩, some ⟨[(o3, _), (o4, _), (.binOp .neq ti (.tmp 3) (.const .nilIface) _, _)], (t, 5) :: b3⟩, some ⟨[(o5, _), (.assign (.const (.bool true)), _)], (r2, 3) :: (r1, 1) :: _⟩ =>
        match asCall o1, asCall o2, asApp o3, asCall o4, asCall o5 with
        | some (f1, []), some (f2, [.tmp v2, .tmp 1]), some (.const (.slice none 0 0), .tmp 2, ta, tb), some (f4, [.tmp v4, .tmp 1]), some (f5, [.tmp v5, .const (.slice none 0 0)]) =>
          f1 == F.np && f2 == F.sv && f4 == F.rf && f5 == F.at_ && v2 == 2 * v && v4 == 2 * v && v5 == 2 * v && (P.underlying s16).isSome && isI16 P t16 && isOct P e ta && ta == tb && isIface P ti && t == t' && nilFalse r (flat A) && (flat B).isEmpty &&
            r1 == r.1 && r2 == r.2 && r1 != r2 && free [0, 1] ((v, 1) :: b1) && free [1, v] b2 && free [v] ((t, 5) :: b3)
        | _, _, _, _, _ => false
      | _, _, _, _ => false
    | _ => false
  | _, _ => false

theorem own_src {e : TypeId} {w : World} {v : Value} {bs : List UInt8} (h : Own e w v bs) (hl : bs.length ≤ 4294967296) : SrcIs w (fun k => v.ownBlock = some k) bs v := by
  rcases h.2 with ⟨rfl, hn⟩ | ⟨g, cap, cur, rfl, hb, hg, hnc, hcm, hcs, htake⟩
  · exact .inl ⟨rfl, List.eq_nil_of_length_eq_zero hn⟩
  · refine .inr ⟨⟨g, 0, none⟩, cap, rfl, hnc, ⟨?_, hl⟩, rfl, fun i u hu => ?_⟩
    · simp only [maxLen] at hcm; omega
    · exact World.ownsRow.cells h (g := g) rfl i (bv u) (by simp [hu])
theorem own_oct {e : TypeId} {w : World} {v : Value} {bs : List UInt8} (h : Own e w v bs) : OctIs w (fun k => v.ownBlock = some k) bs v := by
  rcases h.2 with ⟨rfl, hn⟩ | ⟨g, cap, cur, rfl, hb, hg, hnc, hcm, hcs, htake⟩
  · exact .inl ⟨rfl, List.eq_nil_of_length_eq_zero hn⟩
  · refine .inr ⟨⟨g, 0, none⟩, cap, rfl, hnc, rfl, fun i u hu => ?_⟩
    exact World.ownsRow.cells h (g := g) rfl i (bv u) (by simp [hu])

/-- What is known of a message: its fields, its functions. -/
structure Msg (P : Program) (e : TypeId) (full : Bool) (tR : TypeId) (gE : Nat) (T : Ty) (s : Sch) (ff : Option Int) (tab : List (Nat × Rf)) (tabW : List (Nat × Ap)) (F : AgF) (rf : FuncId) (ps ps' : List (Nat × V)) (most : Int) : Prop where
  rdT : RdT P tR
  rd : ∀ eV f a, rfAt tab f = some a → Callable P f ∧ RfOk P gE eV f a
  wr : Sound P e full tabW
  full : full = true ∨ ∀ v, noTags s v
  np : ∃ fn t, P.funcs[F.np]? = some fn ∧ chkNp P tab fn T = some (t, ps) ∧ Callable P F.np
  sv : ∃ fn, P.funcs[F.sv]? = some fn ∧ chkSv P fn T = true ∧ Callable P F.sv
  rfn : ∃ fn, P.funcs[F.rf]? = some fn ∧ chkRF fn rf = true ∧ Callable P F.rf ∧ Callable P rf
  read : ∃ fn, P.funcs[rf]? = some fn ∧ ∀ eV fx, (fx = true → ff.isSome = true) → chkRd P tab gE eV tR fn T s ff fx = some ps'
  at_ : ∃ fn, P.funcs[F.at_]? = some fn ∧ chkApp P tabW e fn T s ff = true ∧ Callable P F.at_
  ok : ∀ ver, 0 ≤ ver → ver ≤ most → okB ver (flexAt ff ver) s = true
  start : ∀ ver, startB s ((((zeroV T).puts ps).put 0 (.i ver)).puts ps') = true
  ver : ∀ ver, ((((zeroV T).puts ps).put 0 (.i ver)).puts ps').fld 0 = .i ver
  key : s.keys.contains 0 = false
  most : most < 32768

/-- Where reading a message begins. -/
def V0 (T : Ty) (ps ps' : List (Nat × V)) (ver : Int) : V := (((zeroV T).puts ps).put 0 (.i ver)).puts ps'

/-- What reading and writing again answers. -/
def AgIs (w w' : World) (res : Option (List UInt8)) (x : Value) (b : Bool) : Prop :=
  match res with
  | some l => b = true ∧ OctIs w' (fun k => w.heap.size ≤ k ∧ k < w'.heap.size) l x
  | none => b = false ∧ x = .slice none 0 0

theorem chkAg_calls {P : Program} {e : TypeId} {full : Bool} {tR : TypeId} {gE : Nat} {T : Ty} {s : Sch} {ff : Option Int} {tab : List (Nat × Rf)} {tabW : List (Nat × Ap)} {F : AgF} {rf : FuncId} {ps ps' : List (Nat × V)} {most : Int}
    (M : Msg P e full tR gE T s ff tab tabW F rf ps ps' most) {f : FuncId} {fn : Func} (hf : P.funcs[f]? = some fn) (h : chkAg P e fn F = true) {w : World} {S : Nat → Prop} {ver : Int} {src : Value} {l : List UInt8} {tE : TypeId} {vE : Value}
    (hv0 : 0 ≤ ver) (hvm : ver ≤ most) (hsrc : OctIs w S l src) (hS : ∀ k, S k → k < w.heap.size) (hl : l.length < 1073741824) (herr : w.cell? ⟨gE, 0, none⟩ = some (.iface tE vE)) (hgE : gE < w.heap.size) :
    Calls P f #[.int .i64 ver, src] w fun en w' => ∃ x b, en = .returned (.tuple #[x, .bool b]) ∧ Ch (fun _ => False) w w' ∧ AgIs w w' ((dec ver (flexAt ff ver) s (V0 T ps ps' ver) l).map fun y => enc ver (flexAt ff ver) s y.1) x b := by
  have hi16 : IntKind.i16.wrap ver = ver := by
    have := M.most
    have := i16_len (n := ver.toNat) (by omega)
    rw [show ((ver.toNat : Nat) : Int) = ver by omega] at this
    exact this
  unfold chkAg at h
  split at h
  · rename_i c r hbody hres
    simp only [Bool.and_eq_true] at h
    obtain ⟨⟨hfit, hn⟩, h⟩ := h
    split at h
    · rename_i c0 c1 c2 c3 t' A B c4 hflat
      simp only [Bool.and_eq_true] at h
      obtain ⟨h0, h⟩ := h
      split at h
      · rename_i o1 ty1 v b1 s16 t16 ty2 o2 ty3 b2 o3 ty4 o4 ty5 ti u1 ty6 t b3 o5 ty7 ty8 r2 r1 b4 hc1 hc2 hc3 hc4
        split at h
        · rename_i f1 f2 v2 ta tb f4 v4 f5 v5 ho1 ho2 ho3 ho4 ho5
          simp only [Bool.and_eq_true, beq_iff_eq, bne_iff_ne, ne_eq, List.isEmpty_iff] at h
          obtain ⟨⟨⟨⟨⟨⟨⟨⟨⟨⟨⟨⟨⟨⟨⟨⟨⟨⟨⟨⟨rfl, rfl⟩, rfl⟩, rfl⟩, rfl⟩, rfl⟩, rfl⟩, hs16⟩, ht16⟩, hoct⟩, rfl⟩, hif⟩, rfl⟩, hA⟩, hB⟩, hr1⟩, hr2⟩, hr12⟩, hf1⟩, hf2⟩, hf3⟩ := h
          refine (Calls.of_CW hf hbody hfit (by simpa using hn) (CW.of_flat ?_) (R := fun y w' => ∃ x b, y = .tuple #[x, .bool b] ∧ Ch (fun _ => False) w w' ∧ AgIs w w' ((dec ver (flexAt ff ver) s (V0 T ps ps' ver) l).map fun y => enc ver (flexAt ff ver) s y.1) x b)).mono fun en w' ⟨y, he, x, b, hy, hR⟩ => ⟨x, b, by rw [he, hy], hR⟩
          rw [hflat]
          refine CWL.idle h0 fun σ0 he0 => ?_
          have e0 : σ0 0 = .int .i64 ver := (he0 0 (by simp)).trans rfl
          have e1 : σ0 1 = src := (he0 1 (by simp)).trans rfl
          -- a new message
          obtain ⟨fnp, tG, hnp1, hnp2, hnp3⟩ := M.np
          refine CWL.regG hc1 (OpK.asCall ho1 hnp3 rfl ?_)
          simp only [List.map_nil]
          refine (chkNp_calls (M.rd (.iface tE vE)) hnp1 hnp2 w).mono fun en w1 ⟨cells, he, hb1, hcl, hrep1, hch1⟩ => ⟨_, he, ?_⟩
          simp only [RC]
          intro σ1 hσ1
          have k1v : σ1 v = .pointer (some ⟨w.heap.size, 0, none⟩) := by rw [hσ1, outF_head]; simp
          have k1 : ∀ t ∈ [0, 1], σ1 t = σ0 t := fun t ht => by rw [hσ1, outF_free hf1 ht, upd_odd _ _ _ _ (by omega), enF_two]
          -- its version
          obtain ⟨fsv, hsv1, hsv2, hsv3⟩ := M.sv
          have htk : (cells.drop 0).take T.size = cells := by rw [List.drop_zero, List.take_of_length_le (by omega)]
          refine CWL.regG hc2 (OpK.convInt hs16 (isI16_spec ht16) (by simp only [ev_tmp]; exact (enF_two σ1 0).trans ((k1 0 (by simp)).trans e0)) ?_)
          rw [hi16]
          refine OpK.asCall ho2 hsv3 rfl ?_
          simp only [List.map_cons, List.map_nil, ev_tmp]
          rw [show upd (enF σ1) (some (2 * 0 + 1)) (Value.int .i16 ver) (2 * v) = .pointer (some ⟨w.heap.size, 0, none⟩) by rw [upd_odd _ _ _ _ (by omega), enF_two, k1v], show upd (enF σ1) (some (2 * 0 + 1)) (Value.int .i16 ver) 1 = .int .i16 ver from rfl]
          refine (chkSv_calls hsv1 hsv2 (S := fun _ => False) (v := (zeroV T).puts ps) hb1 (by rw [htk]; exact hrep1) (by omega) (fun h => h) hi16).mono fun en w2 ⟨he, c2', hb2, hrep2, hch2⟩ => ⟨_, he, ?_⟩
          simp only [RC]
          intro σ2 hσ2
          have k2 : ∀ t ∈ [1, v], σ2 t = σ1 t := fun t ht => by rw [hσ2, outF_free hf2 ht, upd_odd _ _ _ _ (by omega), upd_odd _ _ _ _ (by omega), enF_two]
          have hc2l := hrep2.size
          rw [splice_all (by omega)] at hb2
          have k2v : σ2 v = .pointer (some ⟨w.heap.size, 0, none⟩) := (k2 v (by simp)).trans k1v
          have k21 : σ2 1 = src := (k2 1 (by simp)).trans ((k1 1 (by simp)).trans e1)
          have hch12 : Ch (fun _ => False) w w2 := hch1.trans hch2 fun i hi e => by omega
          have hgs := hb2.lt
          -- a copy of the octets
          obtain rfl := asApp_spec ho3
          have hsrc2 : OctIs w2 S l src := hsrc.keep fun k hk => hch12.block k (hS k hk) fun h => h
          obtain ⟨a, cc, hsl, hnil, hO⟩ : ∃ a c, src = .slice a l.length c ∧ (a = none → l = []) ∧ ∀ a', a = some a' → Oct w2 a' l := by
            rcases hsrc2 with ⟨h1, h2⟩ | ⟨a, c, h1, h2, h3, h4⟩
            · exact ⟨none, 0, by rw [h1, h2]; rfl, fun _ => h2, fun _ h => by cases h⟩
            · exact ⟨some a, c, h1, (fun h => by cases h), fun a' h => by cases h; exact h4⟩
          have happ := run_append_oct (P := P) (w := w2) (t := ta) (ty := ty4) M.wr.u8 (isOct_spec hoct) (Own.nil e w2) (a := a) (l := l) (c := cc) hnil hO (by simp only [List.length_nil, Lim]; omega)
          obtain ⟨d, w3, hrun, hgrew⟩ := happ
          rw [List.nil_append] at hgrew
          refine CWL.regG hc3 (OpK.run rfl (v := d) (w' := w3) ?_ ?_)
          · simp only [ev_tmp, ev_const]
            rw [show enF σ2 2 = src from (enF_two σ2 1).trans k21, hsl]
            exact hrun
          have hch3 : Ch (fun _ => False) w2 w3 := hgrew.ch.mono fun k _ hk => by simp [Value.ownBlock] at hk
          have hch13 : Ch (fun _ => False) w w3 := hch12.trans' hch3
          have hb3 := hb2.keep (hch3.block _ hgs fun h => h)
          have hdnew : ∀ k, d.ownBlock = some k → w2.heap.size ≤ k ∧ k < w3.heap.size := fun k hk => by
            refine ⟨?_, hgrew.own.lt hk⟩
            rcases hgrew.blk k hk with h' | h'
            · simp [Value.ownBlock] at h'
            · exact h'
          -- it is read
          obtain ⟨frf, hrf1, hrf2, hrf3, hrf4⟩ := M.rfn
          obtain ⟨frd, hrd1, hrd2⟩ := M.read
          refine OpK.asCall ho4 hrf3 rfl ?_
          simp only [List.map_cons, List.map_nil, ev_tmp]
          rw [show upd (enF σ2) (some (2 * 0 + 1)) d (2 * v) = .pointer (some ⟨w.heap.size, 0, none⟩) by rw [upd_odd _ _ _ _ (by omega), enF_two, k2v], show upd (enF σ2) (some (2 * 0 + 1)) d 1 = d from rfl]
          have hrep3 : Rep w3 (fun k => k < w3.heap.size ∧ k ≠ w.heap.size) T ((((zeroV T).puts ps).put 0 (.i ver))) ((c2'.drop 0).take T.size) := by
            rw [List.drop_zero, List.take_of_length_le (by omega)]
            exact hrep2.keepMono (fun _ h => h.elim) fun _ h => h.elim
          have herr3 : w3.cell? ⟨gE, 0, none⟩ = some (.iface tE vE) := (ch_cell hch13 (a := ⟨gE, 0, none⟩) hgE (fun h => h) rfl).trans herr
          have hsz3 := hch13.size
          have hread := chkRd_calls M.rdT (M.rd (.iface tE vE)) hrd1 (hrd2 (.iface tE vE) (flexAt ff ver) (fun h => by cases ff <;> first | rfl | cases h)) (S := fun k => d.ownBlock = some k) (v0 := ((zeroV T).puts ps).put 0 (.i ver)) (ver := ver) (o := 0) hb3 hrep3 (by omega) herr3 ⟨by omega, by omega⟩
            (own_src hgrew.own (by omega)) (fun k hk => ⟨(hdnew k hk).2, by have := (hdnew k hk).1; omega⟩) (M.ver ver) hv0 rfl (M.ok ver hv0 hvm) (M.start ver)
          refine (chkRF_calls hrf1 hrf2 hrf4 hread).mono fun en w4 ⟨x, he, hto⟩ => ⟨x, he, ?_⟩
          obtain ⟨hch4, hto⟩ := hto
          have hch14 : Ch (fun _ => False) w w4 := hch13.trans hch4 fun i hi e => by omega
          obtain ⟨ms, hms⟩ := isIface_spec hif
          change match dec ver (flexAt ff ver) s (V0 T ps ps' ver) l with | some y => _ | none => _ at hto
          cases hd : dec ver (flexAt ff ver) s (V0 T ps ps' ver) l with
          | none =>
            rw [hd] at hto
            refine OpK.neqNilIface (b := true) hms (v := x) (by simp [upd]) rfl (.inr ⟨⟨tE, vE, hto⟩, rfl⟩) ?_
            simp only [RC]
            intro σ3 hσ3
            refine CWL.condT (by simp only [ev_tmp]; rw [hσ3, outF_head]; simp [upd]) (CWL.append ?_)
            unfold nilFalse at hA
            split at hA
            · rename_i cA hfA
              split at hA
              · rename_i ty9 ty10 q2 q1 b5 hcA
                simp only [Bool.and_eq_true, beq_iff_eq, bne_iff_ne, ne_eq] at hA
                obtain ⟨⟨rfl, rfl⟩, hq12⟩ := hA
                rw [hfA]
                refine CWL.reg hcA (OpK.assign (OpK.assign ?_))
                simp only [RC, ev_const]
                refine CWL.ret ?_
                simp only [Then, Ends]
                unfold resTwo at hres
                split at hres
                · rename_i a1 a2 hrs
                  simp only [Option.some.injEq] at hres
                  subst hres
                  refine ⟨_, by simp only [resOf, hrs]; rfl, .slice none 0 0, false, ?_, hch14, rfl, rfl⟩
                  simp only at hq12 ⊢
                  rw [outF_head]
                  simp [outF, look, Ne.symm hq12, upd]
                · cases hres
              · cases hA
            · cases hA
          | some y =>
            rw [hd] at hto
            obtain ⟨hx, cells4, hb4, hl4, hrep4⟩ := hto
            refine OpK.neqNilIface (b := false) hms (v := x) (by simp [upd]) rfl (.inl ⟨hx, rfl⟩) ?_
            simp only [RC]
            intro σ3 hσ3
            have k3v : σ3 v = .pointer (some ⟨w.heap.size, 0, none⟩) := by
              rw [hσ3, outF_free hf3 (by simp), upd_odd _ _ _ _ (by omega), upd_odd _ _ _ _ (by omega), upd_odd _ _ _ _ (by omega), enF_two, k2v]
            refine CWL.condF (by simp only [ev_tmp]; rw [hσ3, outF_head]; simp [upd]) ?_
            rw [hB, List.nil_append]
            -- it is written
            obtain ⟨fat, hat1, hat2, hat3⟩ := M.at_
            obtain ⟨hgood, hlen, hkeep⟩ := dec_good s (M.ok ver hv0 hvm) (M.start ver) hl hd
            have hver : y.1.fld 0 = .i ver := by
              rw [hkeep 0 (by have := M.key; rw [List.contains_eq_mem, decide_eq_false_iff_not] at this; exact this)]
              exact M.ver ver
            have his : Is w4 (fun k => k < w4.heap.size) w.heap.size 0 T y.1 := by
              refine ⟨_, hrep4.mono fun k hk => hk.1, fun i u hu => ?_⟩
              rw [List.getElem?_take] at hu
              split at hu
              · rw [List.getElem?_drop] at hu
                rw [hb4.cell]
                exact hu
              · cases hu
            refine CWL.regG hc4 (OpK.asCall ho5 hat3 rfl ?_)
            simp only [List.map_cons, List.map_nil, ev_tmp, ev_const]
            rw [show enF σ3 (2 * v) = .pointer (some ⟨w.heap.size, 0, none⟩) by rw [enF_two, k3v]]
            have hcall := chkApp_calls M.wr hat1 hat2 (w := w4) (S := fun k => k < w4.heap.size) (g := w.heap.size) (o := 0) (v := y.1) (ver := ver) (d := .slice none 0 0) (bs := []) (M.full.imp id fun h => h y.1) his hb4.lt hver (Own.nil e w4) (fun k hk => ⟨hk, by simp [Value.ownBlock]⟩) (by simp only [List.length_nil, Lim]; omega)
            rw [List.nil_append] at hcall
            refine hcall.mono fun en w5 ⟨d', he5, hg5⟩ => ⟨d', he5, ?_⟩
            refine OpK.assign ?_
            simp only [RC, ev_const]
            intro σ5 hσ5
            refine CWL.ret ?_
            simp only [Ends]
            unfold resTwo at hres
            split at hres
            · rename_i a1 a2 hrs
              simp only [Option.some.injEq] at hres
              subst hres
              have hch5 : Ch (fun _ => False) w4 w5 := hg5.ch.mono fun k _ hk => by simp [Value.ownBlock] at hk
              refine ⟨_, by simp only [resOf, hrs]; rfl, d', true, ?_, hch14.trans' hch5, rfl, ?_⟩
              · simp only at hr1 hr2
                subst hr1
                subst hr2
                rw [hσ5, outF_head]
                simp [outF, look, Ne.symm hr12, upd]
              · rcases own_oct hg5.own with h | ⟨a, c, h1, h2, h3, h4⟩
                · exact .inl h
                · refine .inr ⟨a, c, h1, h2, ?_, h4⟩
                  refine ⟨?_, hg5.own.lt h3⟩
                  rcases hg5.blk _ h3 with h' | h'
                  · simp [Value.ownBlock] at h'
                  · have := hch14.size; omega
            · cases hres
        · cases h
      · cases h
    · cases h
  · cases h
end Go.Kx
