/- Texts: rules of operations on texts, and plain functions of texts. -/
import Derived.Test.YtagmcjolgfkcaaaDoorKxRd2
import Derived.Test.YtagmcjolgfkcaaaDoorKxSaid
import Derived.Laws.DeepStrings4
import Derived.Lib.Space
import Derived.Lib.Case
import Derived.Lib.ConvBytes
import Derived.Lib.AtoiErrMem
import Derived.Test.YtagmcjolgfkcaaaDoorKxAgn
import Derived.Test.YtagmcjolgfkcaaaDoorKxSortP
namespace Go.Kx
open Go.RowKit
set_option linter.unusedSimpArgs false
set_option linter.unusedVariables false

section
variable {P : Program} {ρ : Operand → Value} {w : World} {K : Value → World → Prop} {d : Option Tmp} {ty : TypeId} {pos : String} {af : Array Edge} {g : Option (Nat × Bool)}
theorem OpK.lenS {x : Operand} {t : TypeId} {l : List UInt8} (ht : P.underlying t = some .string) (hx : ρ x = strV l) (h : K (.int .i64 (l.length : Int)) w) : OpK P ρ ⟨d, .call ⟨.builtin .len, #[x], #[t]⟩, ty, pos, af, g⟩ w K := by
  refine OpK.lenStr ht hx ?_
  rw [size_mk]
  exact h
theorem OpK.indexS {x i : Operand} {t : TypeId} {l : List UInt8} {k : IntKind} {j : Nat} {b : UInt8} (ht : P.underlying t = some .string) (hx : ρ x = strV l) (hi : ρ i = .int k (j : Int)) (hb : l[j]? = some b) (h : K (.int .u8 b.toNat) w) :
    OpK P ρ ⟨d, .index t x i, ty, pos, af, g⟩ w K := by
  refine OpK.indexStr ht hx hi ?_ h
  obtain ⟨hj, he⟩ := List.getElem?_eq_some_iff.1 hb
  have hs : j < (⟨l.toArray⟩ : ByteArray).size := by rw [size_mk]; exact hj
  rw [getElem?_pos (⟨l.toArray⟩ : ByteArray) j hs]
  exact congrArg some he
theorem OpK.strBytes {x : Operand} {s t e : TypeId} {l : List UInt8} (hs : P.underlying s = some .string) (ht : P.underlying t = some (.slice e)) (he : P.underlying e = some (.int .u8)) (hx : ρ x = strV l) (hl : l.length ≤ 4294967296)
    (h : ∀ v w', SrcIs w' (fun k => k = w.heap.size) l v → Ch (fun _ => False) w w' → w'.heap.size = w.heap.size + 1 → K v w') : OpK P ρ ⟨d, .convert s t x, ty, pos, af, g⟩ w K := by
  have hr := Lib.run_convert_string_bytes (P := P) w s t e ⟨l.toArray⟩ hs ht he
  simp only [OpK, execOp, hx, strV, Sem.run_bind, hr, Result.andThen_ok, Sem.run_pure, After]
  refine h _ _ (.inr ⟨⟨w.heap.size, 0, none⟩, grownCap w l.length 0 e, by rw [size_mk], grownCap_ge _ _ _ _, ⟨?_, hl⟩, rfl, fun i u hu => ?_⟩) (Ch.of_below (Lib.bytesWorld_below w e _) |>.mono fun i hi h => by omega) (Lib.bytesWorld_size _ _ _)
  · have := grownCap_le_maxLen w l.length 0 e (by simp only [maxLen]; omega)
    simp only [maxLen] at this
    omega
  · obtain ⟨hi, he⟩ := List.getElem?_eq_some_iff.1 hu
    rw [add_lit, Nat.zero_add, Lib.bytesWorld_cell w e _ i (by rw [size_mk]; exact hi)]
    simp [bv, List.getD, hu]
theorem ext_mk (l : List UInt8) (i j : Nat) : (⟨l.toArray⟩ : ByteArray).extract i j = ⟨((l.take j).drop i).toArray⟩ := by
  apply ByteArray.ext
  apply Array.ext'
  simp [ByteArray.data_extract, List.drop_take]
theorem OpK.eqS {x y : Operand} {t u : TypeId} {a b : List UInt8} (hx : ρ x = strV a) (hy : ρ y = strV b) (h : K (.bool (a == b)) w) : OpK P ρ ⟨d, .binOp .eql t x y u, ty, pos, af, g⟩ w K := by
  have e1 : ((⟨a.toArray⟩ : ByteArray).toList == (⟨b.toArray⟩ : ByteArray).toList) = (a == b) := by
    rw [ByteArray.toList_eq, ByteArray.toList_eq]
  simp [OpK, execOp, hx, hy, strV, eqGuard, binOp, Op.stringOp, After]
  exact h
theorem OpK.sliceS {x i j : Operand} {t : TypeId} {l : List UInt8} {a b : Nat} (ht : P.underlying t = some .string) (hx : ρ x = strV l) (hi : ρ i = .int .i64 (a : Int)) (hj : ρ j = .int .i64 (b : Int)) (hab : a ≤ b) (hb : b ≤ l.length) (h : K (strV ((l.take b).drop a)) w) :
    OpK P ρ ⟨d, .slice t x (some i) (some j) none, ty, pos, af, g⟩ w K := by
  have hr := run_slice_string_if (P := P) w t ⟨l.toArray⟩ .i64 .i64 (a : Int) (b : Int) ht
  rw [if_pos ⟨by omega, by rw [size_mk]; omega⟩, if_pos ⟨by omega, by omega⟩, Int.toNat_natCast, Int.toNat_natCast, ext_mk] at hr
  simp only [OpK, execOp, hx, hi, hj, strV, Option.map_some, Option.map_none, Sem.run_bind, run_sliceAt_string _ t _ _ _ _ ht, hr, Result.andThen_ok, Sem.run_pure, After]
  exact h
theorem OpK.sliceSTo {x j : Operand} {t : TypeId} {l : List UInt8} {b : Nat} (ht : P.underlying t = some .string) (hx : ρ x = strV l) (hj : ρ j = .int .i64 (b : Int)) (hb : b ≤ l.length) (h : K (strV (l.take b)) w) :
    OpK P ρ ⟨d, .slice t x none (some j) none, ty, pos, af, g⟩ w K := by
  have hr := run_slice_string_to_if (P := P) w t ⟨l.toArray⟩ .i64 (b : Int) ht
  rw [if_pos ⟨by omega, by rw [size_mk]; omega⟩, Int.toNat_natCast, ext_mk, List.drop_zero] at hr
  simp only [OpK, execOp, hx, hj, strV, Option.map_some, Option.map_none, Sem.run_bind, run_sliceAt_string _ t _ _ _ _ ht, hr, Result.andThen_ok, Sem.run_pure, After]
  exact h
theorem OpK.sliceSFrom {x i : Operand} {t : TypeId} {l : List UInt8} {a : Nat} (ht : P.underlying t = some .string) (hx : ρ x = strV l) (hi : ρ i = .int .i64 (a : Int)) (ha : a ≤ l.length) (h : K (strV (l.drop a)) w) :
    OpK P ρ ⟨d, .slice t x (some i) none none, ty, pos, af, g⟩ w K := by
  have hr := run_slice_string_from_if (P := P) w t ⟨l.toArray⟩ .i64 (a : Int) ht
  rw [if_pos ⟨by omega, by rw [size_mk]; omega⟩, Int.toNat_natCast, ext_mk, size_mk, List.take_length] at hr
  simp only [OpK, execOp, hx, hi, strV, Option.map_some, Option.map_none, Sem.run_bind, run_sliceAt_string _ t _ _ _ _ ht, hr, Result.andThen_ok, Sem.run_pure, After]
  exact h
end

/-! ### Texts as lists of octets -/
def keepB (b : UInt8) : Bool := b != 46 && b != 95 && b != 45
/-- A text as the reference brings it to one form. -/
def normN (l : List UInt8) : List UInt8 := Lib.trimSpace ((l.map Lib.lowerB).filter keepB)
/-- A text as the package brings it to one form. -/
def normS (l : List UInt8) : List UInt8 := Lib.toLowerA (Lib.trimSpace (((l.filter (· != 46)).filter (· != 95)).filter (· != 45)))
theorem u8_all {p : UInt8 → Prop} (h : ∀ i : Fin 256, p (UInt8.ofNat i.val)) (b : UInt8) : p b := by
  have := h ⟨b.toNat, b.toNat_lt⟩
  simpa using this
theorem lower_sp (b : UInt8) : Lib.isSp (Lib.lowerB b) = Lib.isSp b := u8_all (p := fun b => Lib.isSp (Lib.lowerB b) = Lib.isSp b) (by decide +kernel) b
theorem lower_keep (b : UInt8) : keepB (Lib.lowerB b) = keepB b := u8_all (p := fun b => keepB (Lib.lowerB b) = keepB b) (by decide +kernel) b
theorem trim_map (l : List UInt8) : Lib.trimSpace (l.map Lib.lowerB) = (Lib.trimSpace l).map Lib.lowerB := by
  unfold Lib.trimSpace
  have h : (Lib.isSp ∘ Lib.lowerB) = Lib.isSp := by funext b; exact lower_sp b
  rw [List.dropWhile_map, h, ← List.map_reverse, List.dropWhile_map, h, ← List.map_reverse]
theorem norm_eq (l : List UInt8) : normS l = normN l := by
  unfold normS normN Lib.toLowerA
  have h : (keepB ∘ Lib.lowerB) = keepB := by funext b; exact lower_keep b
  rw [List.filter_map, h, trim_map]
  simp only [List.filter_filter]
  congr 2
  apply List.filter_congr
  intro b _
  unfold keepB
  cases (b != 46) <;> cases (b != 95) <;> cases (b != 45) <;> rfl
theorem filter_len {p : UInt8 → Bool} (l : List UInt8) : (l.filter p).length ≤ l.length := List.length_filter_le p l
theorem drop_len {p : UInt8 → Bool} (l : List UInt8) : (l.dropWhile p).length ≤ l.length := by
  induction l with
  | nil => simp
  | cons b l ih => rw [List.dropWhile_cons]; split <;> simp <;> omega
theorem drop_mem {p : UInt8 → Bool} {l : List UInt8} {b : UInt8} (h : b ∈ l.dropWhile p) : b ∈ l := by
  induction l with
  | nil => simp at h
  | cons c l ih =>
    rw [List.dropWhile_cons] at h
    split at h
    · exact List.mem_cons_of_mem _ (ih h)
    · exact h
theorem trim_mem {l : List UInt8} {b : UInt8} (h : b ∈ Lib.trimSpace l) : b ∈ l := by
  unfold Lib.trimSpace at h
  exact drop_mem (List.mem_reverse.1 (drop_mem (List.mem_reverse.1 h)))
theorem trim_len (l : List UInt8) : (Lib.trimSpace l).length ≤ l.length := by
  unfold Lib.trimSpace
  rw [List.length_reverse]
  have h1 := drop_len (p := Lib.isSp) (l.dropWhile Lib.isSp).reverse
  have h2 := drop_len (p := Lib.isSp) l
  rw [List.length_reverse] at h1
  omega
/-- What stands ahead of the first octet c, and behind it. -/
theorem filter_split {c : UInt8} {l : List UInt8} {i : Nat} (h : l[i]? = some c) (hn : c ∉ l.take i) : l.filter (· != c) = l.take i ++ (l.drop (i + 1)).filter (· != c) := by
  obtain ⟨hi, he⟩ := List.getElem?_eq_some_iff.1 h
  conv => lhs; rw [← List.take_append_drop i l, List.drop_eq_getElem_cons hi, he]
  rw [List.filter_append, List.filter_cons]
  simp only [bne_self_eq_false, Bool.false_eq_true, if_false]
  congr 1
  apply List.filter_eq_self.2
  intro b hb
  simp only [bne_iff_ne, ne_eq]
  exact fun e => hn (e ▸ hb)
theorem filter_none {c : UInt8} {l : List UInt8} (h : c ∉ l) : l.filter (· != c) = l := by
  apply List.filter_eq_self.2
  intro b hb
  simp only [bne_iff_ne, ne_eq]
  exact fun e => h (e ▸ hb)
theorem one_eq {l : List UInt8} {i : Nat} (h : i < l.length) (c : UInt8) : ((l.take (i + 1)).drop i == [c]) = decide (l[i]? = some c) := by
  have : (l.take (i + 1)).drop i = [l[i]] := by
    rw [List.take_add_one, List.getElem?_eq_getElem h, List.drop_append, List.length_take, Nat.min_eq_left (by omega), Nat.sub_self]
    simp
  rw [this, List.getElem?_eq_getElem h, Bool.eq_iff_iff]
  simp
theorem Own.src {e : TypeId} {w : World} {v : Value} {bs : List UInt8} (h : Own e w v bs) (hl : bs.length ≤ 4294967296) : SrcIs w (fun _ => True) bs v := by
  rcases h.2 with ⟨rfl, hn⟩ | ⟨g, cap, cur, rfl, hb, hg, hnc, hm, hs, ht⟩
  · exact .inl ⟨rfl, List.eq_nil_of_length_eq_zero hn⟩
  · refine .inr ⟨⟨g, 0, none⟩, cap, rfl, hnc, ⟨by simp only [maxLen] at hm; omega, hl⟩, trivial, fun i u hu => World.ownsRow.cells h (g := g) rfl i (bv u) (by simp [hu])⟩

/-- The first k statements come to J, whichever way they go; then the rest. -/
theorem CWL.joinN {P : Program} {n : Nat} {cs : List Code} {σ : Fm} {w : World} {Q : Exit → Fm → World → Prop} (k : Nat) (J : Fm → World → Prop) (h : CWL P n (cs.take k) σ w (Then J fun _ _ _ => False)) (hn : ∀ σ' w', J σ' w' → CWL P n (cs.drop k) σ' w' Q) : CWL P n cs σ w Q := by
  rw [← List.take_append_drop k cs]
  refine CWL.append (CWL.mono h fun e σ' w' h => ?_)
  cases e with
  | normal => exact hn σ' w' h
  | _ => exact h.elim
theorem CWL.pinT {P : Program} {n : Nat} {cs : List Code} {σ : Fm} {w : World} {Q : Exit → Fm → World → Prop} (l : List (Nat × Value)) (h : ∀ x ∈ l, σ x.1 = x.2) (hc : ∀ σ', CWL P n cs (Go.Kx.pin l σ') w Q) : CWL P n cs σ w Q := by
  rw [pin_eq h]
  exact hc σ
theorem OpK.makeP {P : Program} {ρ : Operand → Value} {w : World} {K : Value → World → Prop} {d : Option Tmp} {ty : TypeId} {pos : String} {af : Array Edge} {g : Option (Nat × Bool)} {x : Operand} {t e : TypeId} {v : Value} (ht : P.underlying t = some (.pointer e)) (hx : ρ x = v) (h : K (.iface t v) w) : OpK P ρ ⟨d, .makeInterface t x, ty, pos, af, g⟩ w K := by
  simp [OpK, execOp, hx, Instr.makeInterface, run_underlying ht, After]
  exact h
theorem SrcIs.keepC {w w' : World} {S : Nat → Prop} {l : List UInt8} {v : Value} (h : SrcIs w S l v) (hc : Ch (fun _ => False) w w') (hS : ∀ k, S k → k < w.heap.size) : SrcIs w' S l v := h.keep fun k hk => hc.block k (hS k hk) fun h => h
theorem SrcIs.nilA {w : World} {S : Nat → Prop} {l : List UInt8} {a : Option Addr} {c : Nat} (h : SrcIs w S l (.slice a l.length c)) : a = none → l = [] := by
  rintro rfl
  rcases h with ⟨_, h⟩ | ⟨a', c', h1, _⟩
  · exact h
  · cases h1
theorem SrcIs.octA {w : World} {S : Nat → Prop} {l : List UInt8} {a : Option Addr} {c : Nat} (h : SrcIs w S l (.slice a l.length c)) : ∀ a', a = some a' → Oct w a' l := by
  rintro a' rfl
  rcases h with ⟨h, _⟩ | ⟨a2, c', h1, _, _, _, h5⟩
  · cases h
  · cases h1; exact h5
section
variable {P : Program} {ρ : Operand → Value} {w : World} {K : Value → World → Prop} {d : Option Tmp} {ty : TypeId} {pos : String} {af : Array Edge} {g : Option (Nat × Bool)}
theorem OpK.neS {x y : Operand} {t u : TypeId} {a b : List UInt8} (hx : ρ x = strV a) (hy : ρ y = strV b) (h : K (.bool (!(a == b))) w) : OpK P ρ ⟨d, .binOp .neq t x y u, ty, pos, af, g⟩ w K := by
  simp [OpK, execOp, hx, hy, strV, eqGuard, binOp, Op.stringOp, After]
  simpa using h
theorem run_eqIn_bool {P : Program} {t : TypeId} (w : World) (d : Nat) (ht : P.underlying t = some .bool) (a b : Bool) : (Op.equalIn (d + 1) t (.bool a) (.bool b)).run P w = .ok (a == b) w := by
  simp [Op.equalIn, run_underlying ht]
theorem OpK.eqBo {x y : Operand} {t u : TypeId} {a b : Bool} (ht : P.underlying t = some .bool) (hx : ρ x = .bool a) (hy : ρ y = .bool b) (h : K (.bool (a == b)) w) : OpK P ρ ⟨d, .binOp .eql t x y u, ty, pos, af, g⟩ w K := by
  have hr : (Op.equal t (.bool a) (.bool b)).run P w = .ok (a == b) w := by
    exact run_eqIn_bool w 9999 ht a b
  simp [OpK, execOp, hx, hy, eqGuard, binOp, hr, After]
  exact h
theorem OpK.eqNil {x : Operand} {t u : TypeId} {ms : Array (String × TypeId)} (ht : P.underlying t = some (.interface ms)) (hx : ρ x = .nilIface) (hn : ρ (.const .nilIface) = .nilIface) (h : K (.bool true) w) : OpK P ρ ⟨d, .binOp .eql t x (.const .nilIface) u, ty, pos, af, g⟩ w K := by
  have hr : (Op.equal t .nilIface .nilIface).run P w = .ok true w := run_eqIn_nilIface w 9999 ht
  simp [OpK, execOp, hx, hn, eqGuard, binOp, hr, After]
  exact h
end
theorem Yi.cmpNilT {P : Program} {ρ : Operand → Value} {d : Option Tmp} {ty : TypeId} {pos : String} {af : Array Edge} {g : Option (Nat × Bool)} {S : World → Prop} {x : Operand} {t u : TypeId} {ms : Array (String × TypeId)} (ht : P.underlying t = some (.interface ms)) (hx : ρ x = .nilIface) (hn : ρ (.const .nilIface) = .nilIface) :
    Yi P S ρ ⟨d, .binOp .eql t x (.const .nilIface) u, ty, pos, af, g⟩ (.bool true) := yi_of_OpK rfl fun w _ => OpK.eqNil ht hx hn ⟨rfl, rfl⟩
theorem SrcIs.monoS {w : World} {S S' : Nat → Prop} {l : List UInt8} {v : Value} (h : SrcIs w S l v) (hs : ∀ k, S k → S' k) : SrcIs w S' l v := by
  rcases h with h | ⟨a, c, h1, h2, h3, h4, h5⟩
  · exact .inl h
  · exact .inr ⟨a, c, h1, h2, h3, hs _ h4, h5⟩
theorem Own.srcB {e : TypeId} {w : World} {v : Value} {bs : List UInt8} (h : Own e w v bs) (hl : bs.length ≤ 4294967296) : SrcIs w (fun k => k < w.heap.size) bs v := by
  have hlt := fun k (hk : v.ownBlock = some k) => h.lt hk
  rcases h.src hl with h | ⟨a, c, rfl, h2, h3, _, h5⟩
  · exact .inl h
  · refine .inr ⟨a, c, rfl, h2, h3, ?_, h5⟩
    rcases h.2 with ⟨h, _⟩ | ⟨g, cap, cur, hv, _⟩
    · cases h
    · simp only [Value.slice.injEq] at hv
      obtain ⟨hv, _⟩ := hv
      cases hv
      exact hlt g rfl
theorem RW.pinR {P : Program} {ops : Array Oper} {os : List Oper} {σ : Fm} {w : World} {K : Fm → World → Prop} (l : List (Nat × Value)) (h : ∀ x ∈ l, σ x.1 = x.2) (hc : ∀ σ', RW P ops os (Go.Kx.pin l σ') w K) : RW P ops os σ w K := by
  rw [pin_eq h]
  exact hc σ
theorem all_pinE {σ : Fm} {k : Nat} {v : Value} {l : List (Nat × Value)} (h : σ k = v) (ht : ∀ x ∈ l, σ x.1 = x.2) : ∀ x ∈ (k, v) :: l, σ x.1 = x.2 := by
  intro x hx
  rcases List.mem_cons.1 hx with rfl | hx
  · exact h
  · exact ht x hx
end Go.Kx
