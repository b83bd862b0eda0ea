/- Library texts Uv Ops2 Draw, joined. -/
import Derived.Test.YthcpchmmpnakaaaGreatDoorKxBe
import Derived.MapKept
import Derived.OrdersHeld
import Derived.Deep.RegionHeld3
/- Branches that are known, and numbers in groups of seven bits: plain lemmas that the writing functions want. -/
namespace Go.Kx
open Go.RowKit
set_option linter.unusedSimpArgs false
set_option linter.unusedVariables false

theorem CWL.split {P : Program} {n : Nat} {b : List Code} : ∀ {a : List Code} {σ : Fm} {w : World} {Q : Exit → Fm → World → Prop}, CWL P n (a ++ b) σ w Q → CWL P n a σ w (Then (fun σ' w' => CWL P n b σ' w' Q) Q) := by
  intro a
  induction a with
  | nil => exact fun h => h
  | cons c a ih =>
    intro σ w Q h
    refine CW.mono h fun e σ w h' => ?_
    cases e with
    | normal => exact ih h'
    | _ => exact h'
section
variable {P : Program} {n : Nat} {c : Operand} {x y : Code} {cs : List Code} {σ : Fm} {w : World} {Q : Exit → Fm → World → Prop}
theorem CWL.condT (hc : ev σ c = .bool true) (h : CWL P n (flat x ++ cs) σ w Q) : CWL P n (.cond c x y :: cs) σ w Q :=
  CWL.cons (CW.cond hc (CW.of_flat (CWL.split h)))
theorem CWL.condF (hc : ev σ c = .bool false) (h : CWL P n (flat y ++ cs) σ w Q) : CWL P n (.cond c x y :: cs) σ w Q :=
  CWL.cons (CW.cond hc (CW.of_flat (CWL.split h)))
theorem CWL.ret (h : Q .ret σ w) : CWL P n (.ret :: cs) σ w Q := CWL.cons (CW.ret h)
/-- A block that is left by a return alone, or by its end. -/
theorem CWL.block {id : Nat} {c : Code} (h : CWL P n (flat c) σ w (InBlock id (Then (fun σ' w' => CWL P n cs σ' w' Q) Q))) : CWL P n (.block id c :: cs) σ w Q :=
  CWL.cons (CW.block (CW.of_flat h))
end

theorem byte_bv (n : Int) (m : Nat) (h : n % 256 = m) (hm : m < 256) : (Value.int .u8 (IntKind.u8.wrap n) : Value) = bv (UInt8.ofNat m) := by
  unfold bv
  rw [IntKind.wrap_u8, h, UInt8.toNat_ofNat']
  congr 1
  omega

theorem and127 (a : Nat) (h : a < 4294967296) : bits .and .u32 (a : Int) 127 = ((a % 128 : Nat) : Int) := by
  have h1 : (BitVec.ofInt 32 (a : Int) &&& BitVec.ofInt 32 127).toNat = a % 128 := by
    rw [BitVec.toNat_and, BitVec.toNat_ofInt, BitVec.toNat_ofInt]
    have e1 : ((a : Int) % ((2 ^ 32 : Nat) : Int)).toNat = a := by omega
    have e2 : ((127 : Int) % ((2 ^ 32 : Nat) : Int)).toNat = 2 ^ 7 - 1 := by decide
    rw [e1, e2, Nat.and_two_pow_sub_one_eq_mod]
  show IntKind.u32.wrap ((BitVec.ofInt 32 (a : Int) &&& BitVec.ofInt 32 127).toNat : Int) = _
  rw [h1, IntKind.wrap_u32]
  omega
theorem or128 (a : Nat) (h : a < 128) : bits .or .u32 (a : Int) 128 = ((a + 128 : Nat) : Int) := by
  have key : ∀ a : Fin 128, bits .or .u32 ((a.1 : Nat) : Int) 128 = ((a.1 + 128 : Nat) : Int) := by decide +kernel
  exact key ⟨a, h⟩

/-- A group that is not the last one. -/
theorem grp (n k : Nat) (hn : n < 4294967296) : (Value.int .u8 (IntKind.u8.wrap (bits .or .u32 (bits .and .u32 ((n : Int) / 2 ^ k) 127) 128)) : Value) = bv (UInt8.ofNat (n / 2 ^ k % 128 + 128)) := by
  have e : ((n : Int) / 2 ^ k) = ((n / 2 ^ k : Nat) : Int) := by rw [Int.natCast_ediv, Int.natCast_pow]; rfl
  have hd : n / 2 ^ k < 4294967296 := Nat.lt_of_le_of_lt (Nat.div_le_self _ _) hn
  rw [e, and127 _ hd, or128 _ (Nat.mod_lt _ (by decide))]
  exact byte_bv _ _ (by omega) (by omega)
theorem grp0 (n : Nat) (hn : n < 4294967296) : (Value.int .u8 (IntKind.u8.wrap (bits .or .u32 (bits .and .u32 (n : Int) 127) 128)) : Value) = bv (UInt8.ofNat (n % 128 + 128)) := by
  have := grp n 0 hn
  simpa using this
theorem grpL (n k : Nat) (h : n / 2 ^ k < 128) : (Value.int .u8 (IntKind.u8.wrap ((n : Int) / 2 ^ k)) : Value) = bv (UInt8.ofNat (n / 2 ^ k)) := by
  have e : ((n : Int) / 2 ^ k) = ((n / 2 ^ k : Nat) : Int) := by rw [Int.natCast_ediv, Int.natCast_pow]; rfl
  rw [e]
  generalize n / 2 ^ k = m at h ⊢
  exact byte_bv _ _ (by omega) (by omega)
theorem grpL0 (n : Nat) (h : n < 128) : (Value.int .u8 (IntKind.u8.wrap (n : Int)) : Value) = bv (UInt8.ofNat n) := byte_bv _ _ (by omega) (by omega)

theorem uv1 {n : Nat} (h : n < 128) : uvar n = [UInt8.ofNat n] := uvar_small h
theorem uv2 {n : Nat} (h : 128 ≤ n) (h' : n < 16384) : uvar n = [UInt8.ofNat (n % 128 + 128), UInt8.ofNat (n / 2 ^ 7)] := by
  rw [uvar_big (by omega), uvar_small (by omega)]
theorem uv3 {n : Nat} (h : 16384 ≤ n) (h' : n < 2097152) : uvar n = [UInt8.ofNat (n % 128 + 128), UInt8.ofNat (n / 2 ^ 7 % 128 + 128), UInt8.ofNat (n / 2 ^ 14)] := by
  rw [uvar_big (by omega), uv2 (by omega) (by omega), show n / 128 / 2 ^ 7 = n / 2 ^ 14 by omega]
theorem uv4 {n : Nat} (h : 2097152 ≤ n) (h' : n < 268435456) : uvar n = [UInt8.ofNat (n % 128 + 128), UInt8.ofNat (n / 2 ^ 7 % 128 + 128), UInt8.ofNat (n / 2 ^ 14 % 128 + 128), UInt8.ofNat (n / 2 ^ 21)] := by
  rw [uvar_big (by omega), uv3 (by omega) (by omega), show n / 128 / 2 ^ 14 = n / 2 ^ 21 by omega, show n / 128 / 2 ^ 7 = n / 2 ^ 14 by omega]
theorem uv5 {n : Nat} (h : 268435456 ≤ n) (h' : n < 4294967296) : uvar n = [UInt8.ofNat (n % 128 + 128), UInt8.ofNat (n / 2 ^ 7 % 128 + 128), UInt8.ofNat (n / 2 ^ 14 % 128 + 128), UInt8.ofNat (n / 2 ^ 21 % 128 + 128), UInt8.ofNat (n / 2 ^ 28)] := by
  rw [uvar_big (by omega), uv4 (by omega) (by omega), show n / 128 / 2 ^ 21 = n / 2 ^ 28 by omega, show n / 128 / 2 ^ 14 = n / 2 ^ 21 by omega, show n / 128 / 2 ^ 7 = n / 2 ^ 14 by omega]

/-- How many octets a number takes. -/
def uvLen (n : Nat) : Nat := if n < 128 then 1 else if n < 16384 then 2 else if n < 2097152 then 3 else if n < 268435456 then 4 else 5
def bl8 (t : Nat) : Nat := if t = 0 then 0 else if t < 2 then 1 else if t < 4 then 2 else if t < 8 then 3 else if t < 16 then 4 else if t < 32 then 5 else if t < 64 then 6 else if t < 128 then 7 else 8
def bl32 (n : Nat) : Nat := if 65536 ≤ n then (if 256 ≤ n / 65536 then 24 + bl8 (n / 65536 / 256) else 16 + bl8 (n / 65536)) else (if 256 ≤ n then 8 + bl8 (n / 256) else bl8 n)
/-- What the table of lengths says of a count of bits. -/
def utab (j : Nat) : Nat := if j < 8 then 1 else if j < 15 then 2 else if j < 22 then 3 else if j < 29 then 4 else 5

theorem bl8_le {t : Nat} : bl8 t ≤ 8 := by unfold bl8; repeat' split <;> try omega
theorem utab_bl32 {n : Nat} (h : n < 4294967296) : utab (bl32 n) = uvLen n := by
  have k0 : ∀ t : Fin 256, utab (bl8 t.1) = if t.1 < 128 then 1 else 2 := by decide +kernel
  have k1 : ∀ t : Fin 256, t.1 ≠ 0 → utab (8 + bl8 t.1) = if t.1 < 64 then 2 else 3 := by decide +kernel
  have k2 : ∀ t : Fin 256, t.1 ≠ 0 → utab (16 + bl8 t.1) = if t.1 < 32 then 3 else 4 := by decide +kernel
  have k3 : ∀ t : Fin 256, t.1 ≠ 0 → utab (24 + bl8 t.1) = if t.1 < 16 then 4 else 5 := by decide +kernel
  unfold bl32 uvLen
  by_cases h1 : 65536 ≤ n
  · rw [if_pos h1]
    by_cases h2 : 256 ≤ n / 65536
    · rw [if_pos h2]
      have := k3 ⟨n / 65536 / 256, by omega⟩ (by show n / 65536 / 256 ≠ 0; omega)
      simp only at this
      rw [this]
      repeat' split <;> try omega
    · rw [if_neg h2]
      have := k2 ⟨n / 65536, by omega⟩ (by show n / 65536 ≠ 0; omega)
      simp only at this
      rw [this]
      repeat' split <;> try omega
  · rw [if_neg h1]
    by_cases h2 : 256 ≤ n
    · rw [if_pos h2]
      have := k1 ⟨n / 256, by omega⟩ (by show n / 256 ≠ 0; omega)
      simp only at this
      rw [this]
      repeat' split <;> try omega
    · rw [if_neg h2]
      have := k0 ⟨n, by omega⟩
      simp only at this
      rw [this]
      repeat' split <;> try omega
theorem bl32_le {n : Nat} : bl32 n ≤ 32 := by
  unfold bl32
  have := @bl8_le (n / 65536 / 256)
  have := @bl8_le (n / 65536)
  have := @bl8_le (n / 256)
  have := @bl8_le n
  repeat' split <;> try omega

theorem wrap_u32_nat (n : Nat) : IntKind.u32.wrap (n : Int) = (word n : Int) := by rw [IntKind.wrap_u32]; unfold word; omega
theorem word_succ (n : Nat) : IntKind.u32.wrap (1 + IntKind.u32.wrap (n : Int)) = (word (n + 1) : Int) := by rw [IntKind.wrap_u32, IntKind.wrap_u32]; unfold word; omega
theorem word_lt (n : Nat) : word n < 4294967296 := Nat.mod_lt _ (by decide)
theorem uvar_len {n : Nat} (h : n < 4294967296) : (uvar n).length = uvLen n := by
  unfold uvLen
  split
  · rw [uv1 (by omega)]; rfl
  · split
    · rw [uv2 (by omega) (by omega)]; rfl
    · split
      · rw [uv3 (by omega) (by omega)]; rfl
      · split
        · rw [uv4 (by omega) (by omega)]; rfl
        · rw [uv5 (by omega) (by omega)]; rfl
theorem i64_nat (n : Nat) (h : n < 9223372036854775808) : IntKind.i64.wrap (n : Int) = n := by
  rw [show IntKind.i64.wrap (n : Int) = (if (n : Int) % 18446744073709551616 ≥ 9223372036854775808 then (n : Int) % 18446744073709551616 - 18446744073709551616 else (n : Int) % 18446744073709551616) by simp [IntKind.wrap, IntKind.bits, IntKind.signed]]
  split <;> omega

end Go.Kx

/- More operations as rules: boxes, functions as values, maps' counts. -/
namespace Go.Kx
open Go.RowKit
set_option linter.unusedSimpArgs false
set_option linter.unusedVariables false

section
variable {P : Program} {ρ : Operand → Value} {w : World} {K : Value → World → Prop} {d : Option Tmp} {ty : TypeId} {pos : String} {af : Array Edge} {g : Option (Nat × Bool)}
theorem OpK.box {x : Operand} {t : TypeId} (h : K (.pointer (some ⟨w.heap.size, 0, none⟩)) (w.alloc (.cells (ρ x).cells t))) : OpK P ρ ⟨d, .box t x, ty, pos, af, g⟩ w K := by
  simp [OpK, execOp, Instr.box, newVar, newRow, After]
  exact h
theorem OpK.makeFunc {f : Fn} {a b : Array Operand} (h : K (.func f (a.map ρ) (b.map ρ)) w) : OpK P ρ ⟨d, .makeFunc f a b, ty, pos, af, g⟩ w K := by
  simp [OpK, execOp, Instr.makeFunc, After]
  exact h
theorem OpK.lenMap {x : Operand} {t k e : TypeId} {r : Nat} {es : Array MapEntry} {clk : Nat} (ht : P.underlying t = some (.map k e)) (hx : ρ x = .map (some r)) (hr : w.heap[r]? = some (.map es clk)) (h : K (.int .i64 es.size) w) :
    OpK P ρ ⟨d, .call ⟨.builtin .len, #[x], #[t]⟩, ty, pos, af, g⟩ w K := by
  simp only [OpK, execOp, resolve, invoke, builtin, Sem.run_bind, Sem.run_pure, Result.andThen_ok, List.map_toArray, List.map_cons, List.map_nil, hx, Builtin.len_]
  simp [run_underlying ht, After, goInt, MapKept.run_getObj_map hr]
  exact h
theorem OpK.lenMap0 {x : Operand} {t k e : TypeId} (ht : P.underlying t = some (.map k e)) (hx : ρ x = .map none) (h : K (.int .i64 0) w) :
    OpK P ρ ⟨d, .call ⟨.builtin .len, #[x], #[t]⟩, ty, pos, af, g⟩ w K := by
  simp only [OpK, execOp, resolve, invoke, builtin, Sem.run_bind, Sem.run_pure, Result.andThen_ok, List.map_toArray, List.map_cons, List.map_nil, hx, Builtin.len_]
  simp [run_underlying ht, After, goInt]
  exact h
end

theorem All2.len {α β : Type} {R : α → β → Prop} {l : List α} {m : List β} (h : All2 R l m) : l.length = m.length := by
  induction h with
  | nil => rfl
  | cons _ _ ih => simp [ih]

theorem u8_nat {n : Nat} (h : n < 256) : IntKind.u8.wrap (n : Int) = (n : Int) := by rw [IntKind.wrap_u8]; omega
theorem utab_le (j : Nat) : utab j ≤ 5 := by unfold utab; repeat' split <;> try omega
theorem ulen_val {n : Nat} (h : n < 4294967296) : (Value.int .i64 (IntKind.i64.wrap ((UInt8.ofNat (utab (bl32 n))).toNat : Int))) = .int .i64 (uvLen n : Int) := by
  have := utab_le (bl32 n)
  rw [utab_bl32 h] at this ⊢
  rw [UInt8.toNat_ofNat', i64_nat _ (by omega)]
  congr 2
  omega
theorem len_fin (a t : Nat) (ha : a ≤ 24) : (Value.int .i64 (IntKind.i64.wrap ((a : Int) + IntKind.i64.wrap ((UInt8.ofNat (bl8 t)).toNat : Int)))) = .int .i64 ((a + bl8 t : Nat) : Int) := by
  have := @bl8_le t
  rw [UInt8.toNat_ofNat', i64_nat _ (by omega), show (bl8 t % 2 ^ 8) = bl8 t by omega, show ((a : Int) + (bl8 t : Int)) = ((a + bl8 t : Nat) : Int) by omega, i64_nat _ (by omega)]

theorem Sound.of_all {P : Program} {e : TypeId} {full : Bool} {tab : List (Nat × Ap)} (h8 : U8 P e) (h : ∀ x ∈ tab, Callable P x.1 ∧ ApOk P e full x.1 x.2) : Sound P e full tab := by
  refine ⟨h8, fun f a hf => ?_⟩
  unfold apAt at hf
  obtain ⟨x, hx, rfl⟩ := Option.map_eq_some_iff.1 hf
  have hm := List.mem_of_find?_eq_some hx
  have he := List.find?_some hx
  simp only [beq_iff_eq] at he
  subst he
  exact h x hm
theorem all_cons {α : Type} {p : α → Prop} {a : α} {l : List α} (h : p a) (k : ∀ x ∈ l, p x) : ∀ x ∈ a :: l, p x := by
  intro x hx
  rcases List.mem_cons.1 hx with rfl | hx
  · exact h
  · exact k x hx
theorem all_nil {α : Type} {p : α → Prop} : ∀ x ∈ ([] : List α), p x := by intro x hx; cases hx

end Go.Kx
namespace Go.Kx
theorem cell_old (w : World) (o : Obj) {g i : Nat} (h : g < w.heap.size) : (w.alloc o).cell? ⟨g, i, none⟩ = w.cell? ⟨g, i, none⟩ := by
  simp [World.cell?, alloc_old w o g h]
theorem cell_new (w : World) (v : Value) (t : TypeId) : (w.alloc (.cells #[v] t)).cell? ⟨w.heap.size, 0, none⟩ = some v := by
  exact (Blk.new w t [v]).cell 0
end Go.Kx

/- Regions that draw their order: walked in one order, where what may come up early only reads what nobody writes. -/
namespace Go.Kx
open Go.RowKit
set_option linter.unusedSimpArgs false
set_option linter.unusedVariables false

/-- In every world that meets S the operation yields v, and leaves the world as it is. -/
def Yi (P : Program) (S : World → Prop) (ρ : Operand → Value) (o : Oper) (v : Value) : Prop := ∀ w, S w → (execOp ρ o).run P w = .ok (.value v) w

/-- One operation behind the other, by a list of places; a place with true is taken early. -/
def HW (P : Program) (ops : Array Oper) (S : World → Prop) : List (Nat × Bool) → Fm → World → (Fm → World → Prop) → Prop
  | [], σ, w, K => K σ w
  | (i, true) :: l, σ, w, K =>
    match ops[i]? with
    | some o => ∃ v, ((wantedB o ops σ = true ∧ Yi P S (ev σ) o v) ∨ (wantedB o ops σ = false ∧ v = undef)) ∧ HW P ops S l (upd σ o.dst v) w K
    | none => False
  | (i, false) :: l, σ, w, K =>
    match ops[i]? with
    | some o => wantedB o ops σ = true ∧ OpK P (ev σ) o w fun v w' => S w' ∧ HW P ops S l (upd σ o.dst v) w' K
    | none => False

/-- The list is one way through the region. -/
def schedB (ops : Array Oper) : Array Bool → List (Nat × Bool) → Bool
  | listed, [] => (Region.ready .any ops listed).isEmpty
  | listed, (i, true) :: l => Region.free .any ops listed i && (Region.ready .any ops listed).contains i && schedB ops (listed.setIfInBounds i true) l
  | listed, (i, false) :: l => Region.ready .any ops listed == [i] && schedB ops (listed.setIfInBounds i true) l

theorem wanted_eq {o : Oper} {ops : Array Oper} {n : Nat} {a : Act} {σ : Fm} (ha : Fr n a σ) : Region.wanted o (yielded ops a.tmps) = wantedB o ops σ := by
  unfold Region.wanted wantedB
  split
  · rename_i hg; rw [hg]
  · rename_i j b hg; rw [hg]; simp only [yielded_eq ha]

theorem HW.wp {P : Program} {ops : Array Oper} {S : World → Prop} {n : Nat} {Q : Exit → Act → World → Prop} (hsel : Region.noSelect ops = true) (hQ : ∀ c a w, ¬ Q (.panic c) a w)
    (hs : ops.toList.all (fun o => okDst n o.dst) = true) : ∀ (l : List (Nat × Bool)) (fuel : Nat) (listed : Array Bool) (a : Act) (σ : Fm) (w : World) (K : Fm → World → Prop), l.length ≤ fuel → S w → Fr n a σ →
    schedB ops listed l = true → HW P ops S l σ w K → (∀ a' σ' w', Fr n a' σ' → K σ' w' → Q .normal a' w') → wpAnyH P .any ops Q S fuel listed a w := by
  have okd : ∀ (i : Nat) (o : Oper), ops[i]? = some o → okDst n o.dst = true := by
    intro i o ho
    have := List.all_eq_true.1 hs o (by rw [← Array.mem_def]; exact Array.mem_of_getElem? ho)
    exact this
  intro l
  induction l with
  | nil =>
    intro fuel listed a σ w K _ hS ha hb h hk
    simp only [schedB, List.isEmpty_iff] at hb
    exact wpAnyH_done hb (hk a σ w ha h) fuel
  | cons x l ih =>
    intro fuel listed a σ w K hl hS ha hb h hk
    obtain ⟨i, b⟩ := x
    cases fuel with
    | zero => simp at hl
    | succ fuel =>
      simp only [List.length_cons] at hl
      cases b with
      | true =>
        simp only [schedB, Bool.and_eq_true] at hb
        obtain ⟨⟨h1, h2⟩, h3⟩ := hb
        unfold HW at h
        split at h
        · rename_i o ho
          obtain ⟨v, hy, h'⟩ := h
          refine wpAnyH_take (v := v) ho hsel h1 h2 (fun c a w hq => (hQ _ _ _ hq).elim) (hy.imp (fun ⟨hw, hy⟩ => ⟨by rw [wanted_eq ha]; exact hw, by rw [ha.eval]; exact hy⟩) (fun ⟨hw, hv⟩ => ⟨by rw [wanted_eq ha]; exact hw, hv⟩)) hS ?_
          exact ih fuel _ _ _ w K (by omega) hS (ha.put (okd i o ho) v) h3 h' hk
        · exact h.elim
      | false =>
        simp only [schedB, Bool.and_eq_true, beq_iff_eq] at hb
        obtain ⟨h1, h3⟩ := hb
        unfold HW at h
        split at h
        · rename_i o ho
          obtain ⟨hw, h'⟩ := h
          refine wpAnyH_all (rs := [i]) h1 (by simp) fun j hj => ?_
          obtain rfl : j = i := by simpa using hj
          unfold wpOp
          simp only [ho]
          rw [wanted_eq ha, if_pos hw]
          exact .inl (wp_of_OpK ha h' fun v w' ⟨hS', h''⟩ => ⟨hS', ih fuel _ _ _ w' K (by omega) hS' (ha.put (okd _ o ho) v) h3 h'' hk⟩)
        · exact h.elim

theorem CW.regionD {P : Program} {n id : Nat} {ops : Array Oper} {σ : Fm} {w : World} {Q : Exit → Fm → World → Prop} (hm : P.follows .mixedOrders = true) (S : World → Prop) (l : List (Nat × Bool))
    (hb : (Region.noSelect ops && schedB ops (Array.replicate ops.size false) l && Nat.ble l.length ops.size) = true) (hS : S w.drew) (h : HW P ops S l σ w.drew fun σ' w' => Q .normal σ' w') : CW P n (.region id ops true) σ w Q := by
  intro hs a ha
  simp only [Bool.and_eq_true] at hb
  refine wp_region_noPanic (wp_region_held (S := S) hm ?_)
  exact HW.wp (S := S) hb.1.1 (fun _ _ _ h => h) hs l _ _ a σ _ _ (Nat.le_of_ble_eq_true hb.2) hS ha hb.1.2 h fun a' σ' w' hf hK => ⟨σ', hf, hK⟩

theorem CWL.regD {P : Program} {n id : Nat} {ops : Array Oper} {cs : List Code} {σ : Fm} {w : World} {Q : Exit → Fm → World → Prop} (hm : P.follows .mixedOrders = true) (S : World → Prop) (l : List (Nat × Bool))
    (hb : (Region.noSelect ops && schedB ops (Array.replicate ops.size false) l && Nat.ble l.length ops.size) = true) (hS : S w.drew) (h : HW P ops S l σ w.drew fun σ' w' => CWL P n cs σ' w' Q) : CWL P n (.region id ops true :: cs) σ w Q :=
  CWL.cons (CW.regionD hm S l hb hS h)

/-- What an operation yields by its rule, where it does no more than yield a value. -/
def valOp : Op → Bool
  | .move _ | .assign _ | .load .. | .binOp .. | .unOp .. | .convert .. | .slice .. | .fieldAddr .. | .field .. | .indexAddr .. | .index .. | .extract .. => true
  | _ => false

theorem after_v {P : Program} {s : Sem Value} {w : World} {v : Value} (h : After P ((do pure (Next.value (← s))).run P w) fun u w' => u = v ∧ w' = w) : (do pure (Next.value (← s)) : Sem Next).run P w = .ok (.value v) w := by
  simp only [Sem.run_bind] at h ⊢
  generalize s.run P w = r at h ⊢
  cases r with
  | ok u w' =>
    simp only [Result.andThen_ok, Sem.run_pure, After] at h ⊢
    rw [h.1, h.2]
  | halt x w' => exact h.elim

theorem yi_of_OpK {P : Program} {S : World → Prop} {ρ : Operand → Value} {o : Oper} {v : Value} (ho : valOp o.op = true) (h : ∀ w, S w → OpK P ρ o w fun u w' => u = v ∧ w' = w) : Yi P S ρ o v := by
  intro w hw
  have h := h w hw
  obtain ⟨d, op, ty, pos, af, g⟩ := o
  unfold OpK at h
  cases op <;> first | (simp only [valOp] at ho; cases ho; done) | (simp only [execOp] at h ⊢; exact after_v h) | skip
  case move x => simp only [execOp, Sem.run_pure, After] at h ⊢; rw [h.1]
  case assign x => simp only [execOp, Sem.run_pure, After] at h ⊢; rw [h.1]

section
variable {P : Program} {S : World → Prop} {ρ : Operand → Value} {d : Option Tmp} {ty : TypeId} {pos : String} {af : Array Edge} {g : Option (Nat × Bool)}
theorem Yi.move {x : Operand} : Yi P S ρ ⟨d, .move x, ty, pos, af, g⟩ (ρ x) := yi_of_OpK rfl fun w _ => OpK.move ⟨rfl, rfl⟩
theorem Yi.assign {x : Operand} : Yi P S ρ ⟨d, .assign x, ty, pos, af, g⟩ (ρ x) := yi_of_OpK rfl fun w _ => OpK.assign ⟨rfl, rfl⟩
theorem Yi.pick {c x y : Operand} {b : Bool} (hc : ρ c = .bool b) : Yi P S ρ ⟨d, .pick c x y, ty, pos, af, g⟩ (if b then ρ x else ρ y) := by
  intro w _
  simp only [execOp, hc, asBool, Sem.run_bind, Sem.run_pure, Result.andThen_ok]
theorem Yi.fieldAddr {x : Operand} {T : TypeId} {k off : Nat} {a : Addr} (ho : fieldOff P T k = some off) (hx : ρ x = .pointer (some a)) : Yi P S ρ ⟨d, .fieldAddr T x k, ty, pos, af, g⟩ (.pointer (some (a.add off))) :=
  yi_of_OpK rfl fun w _ => OpK.fieldAddr ho hx ⟨rfl, rfl⟩
theorem Yi.load {x : Operand} {t : TypeId} {a : Addr} {v : Value} (ht : oneB P t = true) (hx : ρ x = .pointer (some a)) (hc : ∀ w, S w → w.cell? a = some v) : Yi P S ρ ⟨d, .load t x, ty, pos, af, g⟩ v :=
  yi_of_OpK rfl fun w hw => OpK.load ht hx (hc w hw) ⟨rfl, rfl⟩
theorem Yi.indexAddr {x i : Operand} {t : TypeId} {a : Addr} {n c s : Nat} {k : IntKind} {j : Nat} (hs : elemSize P t = some s) (hx : ρ x = .slice (some a) n c) (hi : ρ i = .int k (j : Int)) (hj : j < n) :
    Yi P S ρ ⟨d, .indexAddr t x i, ty, pos, af, g⟩ (.pointer (some (a.add (j * s)))) := yi_of_OpK rfl fun w _ => OpK.indexAddr hs hx hi hj ⟨rfl, rfl⟩
theorem Yi.cmp {x y : Operand} {op : BinOp} {t u : TypeId} {k : IntKind} {a b : Int} {r : Bool} (hr : cmpB op a b = some r) (hx : ρ x = .int k a) (hy : ρ y = .int k b) : Yi P S ρ ⟨d, .binOp op t x y u, ty, pos, af, g⟩ (.bool r) :=
  yi_of_OpK rfl fun w _ => OpK.cmp hr hx hy ⟨rfl, rfl⟩
theorem Yi.not {x : Operand} {t : TypeId} {b : Bool} (hx : ρ x = .bool b) : Yi P S ρ ⟨d, .unOp .not t x, ty, pos, af, g⟩ (.bool !b) := yi_of_OpK rfl fun w _ => OpK.not hx ⟨rfl, rfl⟩
end

section
variable {P : Program} {ops : Array Oper} {S : World → Prop} {i : Nat} {l : List (Nat × Bool)} {o : Oper} {σ : Fm} {w : World} {K : Fm → World → Prop}
theorem HW.early {v : Value} (ho : ops[i]? = some o) (hw : wantedB o ops σ = true) (hy : Yi P S (ev σ) o v) (h : HW P ops S l (upd σ o.dst v) w K) : HW P ops S ((i, true) :: l) σ w K := by
  unfold HW; rw [ho]; exact ⟨v, .inl ⟨hw, hy⟩, h⟩
theorem HW.none_ (ho : ops[i]? = some o) (hw : wantedB o ops σ = false) (h : HW P ops S l (upd σ o.dst undef) w K) : HW P ops S ((i, true) :: l) σ w K := by
  unfold HW; rw [ho]; exact ⟨undef, .inr ⟨hw, rfl⟩, h⟩
theorem HW.next (ho : ops[i]? = some o) (hw : wantedB o ops σ = true) (h : OpK P (ev σ) o w fun v w' => S w' ∧ HW P ops S l (upd σ o.dst v) w' K) : HW P ops S ((i, false) :: l) σ w K := by
  unfold HW; rw [ho]; exact ⟨hw, h⟩
theorem HW.done (h : K σ w) : HW P ops S [] σ w K := h
end
theorem HW.mono {P : Program} {ops : Array Oper} {S : World → Prop} : ∀ {l : List (Nat × Bool)} {σ : Fm} {w : World} {K K' : Fm → World → Prop}, HW P ops S l σ w K → (∀ σ w, K σ w → K' σ w) → HW P ops S l σ w K'
  | [], _, _, _, _, h, hk => hk _ _ h
  | (i, true) :: l, σ, w, K, K', h, hk => by
    unfold HW at h ⊢
    split at h
    · obtain ⟨v, h2, h3⟩ := h
      exact ⟨v, h2, HW.mono h3 hk⟩
    · exact h.elim
  | (i, false) :: l, σ, w, K, K', h, hk => by
    unfold HW at h ⊢
    split at h
    · obtain ⟨h1, h2⟩ := h
      exact ⟨h1, After.mono h2 fun v w' ⟨h3, h4⟩ => ⟨h3, HW.mono h4 hk⟩⟩
    · exact h.elim
end Go.Kx
