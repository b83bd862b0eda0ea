/- What the functions of the package that write a value, or a count, do: each writes the octets that the plain functions say, behind the slice that it is given. -/
import Derived.Test.YtmgnfbbgjahnhaaDoorKxDraw
import Derived.Test.YtmgnfbbgjahnhaaDoorKxTg
import Derived.Test.YtmgnfbbgjahnhaaDoorProg
namespace Go.Proofs.YtmgnfbbgjahnhaaDoor.Snd
open Go.Kx Go.RowKit Go.Proofs
set_option maxRecDepth 100000
set_option linter.unusedSimpArgs false
set_option linter.unusedVariables false

theorem u8 : U8 Tryd.prog 5 := by unfold U8; kernel_rfl
theorem und : Tryd.prog.underlying 22 = some (.slice 5) := by kernel_rfl
theorem unds : Tryd.prog.underlying 9 = some .string := by kernel_rfl

theorem call70 : Callable Tryd.prog 70 := ⟨Tryd.f70, Tryd.func70, by kernel_rfl, by kernel_rfl⟩
set_option maxHeartbeats 4000000 in
theorem c70 (w : World) (n : Int) (d : Value) (bs : List UInt8) (hd : Own 5 w d bs) (hl : bs.length + 2 ≤ Lim) : Calls Tryd.prog 70 #[d, .int .u16 n] w fun en w' => ∃ d', en = .returned d' ∧ Grew 5 w d w' d' (bs ++ be 2 n) := by
  obtain ⟨v', w', hr, hg⟩ := append_lit (ty := 22) und u8 hd (be 2 n) (by rw [be_length]; exact hl)
  have hc : ((be 2 n).map bv) = [.int .u8 (IntKind.u8.wrap (n / 2 ^ min ((8 : Int).toNat) IntKind.u16.bits)), .int .u8 (IntKind.u8.wrap n)] := by
    simp only [be, List.map_cons, List.map_nil]
    rw [← oct_shr n 1 8 rfl, ← oct_low n]
    rfl
  rw [hc, be_length] at hr
  refine Calls.of_CW Tryd.func70 rfl (by decide +kernel) (Nat.le_of_ble_eq_true (by kernel_rfl)) (CW.of_flat ?_)
  simp only [flat, List.cons_append, List.nil_append, List.append_nil]
  refine CWL.reg (ops := [(.assign (.const (Go.Value.slice none 0 0)), 22)]) (b := [(4, 1)]) (by kernel_rfl) ?_
  refine OpK.assign ?_
  refine CWL.reg (ops := [(.binOp .shr 27 (.tmp 2) (.const (Go.Value.int Go.IntKind.u64 8)) 118, 27), (.convert 27 5 (.tmp 1), 5), (.convert 27 5 (.tmp 2), 5), (.buildSlice 22 2 #[(0, .tmp 3), (1, .tmp 5)], 22), (.call ⟨.builtin .append, #[.tmp 0, .tmp 7], #[22, 22]⟩, 22)]) (b := [(4, 9), (12, 9), (11, 7), (10, 5), (9, 2), (8, 3), (7, 1), (6, 2), (5, 0)]) (by kernel_rfl) ?_
  refine OpK.shr rfl rfl (by decide) ?_
  refine OpK.convInt (k' := .u8) (by kernel_rfl) (by kernel_rfl) rfl ?_
  refine OpK.convInt (k' := .u8) (by kernel_rfl) (by kernel_rfl) rfl ?_
  refine OpK.buildS (by simp only [List.map_toArray, List.map_cons, List.map_nil]; exact run_bs2 (by kernel_rfl) u8 _ _) ?_
  refine OpK.run rfl hr ?_
  refine CWL.cons (CW.ret ?_)
  exact ⟨_, rfl, hg⟩

theorem call81 : Callable Tryd.prog 81 := ⟨Tryd.f81, Tryd.func81, by kernel_rfl, by kernel_rfl⟩
set_option maxHeartbeats 4000000 in
theorem c81 (w : World) (n : Int) (d : Value) (bs : List UInt8) (hd : Own 5 w d bs) (hl : bs.length + 4 ≤ Lim) : Calls Tryd.prog 81 #[d, .int .u32 n] w fun en w' => ∃ d', en = .returned d' ∧ Grew 5 w d w' d' (bs ++ be 4 n) := by
  obtain ⟨v', w', hr, hg⟩ := append_lit (ty := 22) und u8 hd (be 4 n) (by rw [be_length]; exact hl)
  have hc : ((be 4 n).map bv) = [.int .u8 (IntKind.u8.wrap (n / 2 ^ min ((24 : Int).toNat) IntKind.u32.bits)), .int .u8 (IntKind.u8.wrap (n / 2 ^ min ((16 : Int).toNat) IntKind.u32.bits)), .int .u8 (IntKind.u8.wrap (n / 2 ^ min ((8 : Int).toNat) IntKind.u32.bits)), .int .u8 (IntKind.u8.wrap n)] := by
    simp only [be, List.map_cons, List.map_nil]
    rw [← oct_shr n 3 24 rfl, ← oct_shr n 2 16 rfl, ← oct_shr n 1 8 rfl, ← oct_low n]
    rfl
  rw [hc, be_length] at hr
  refine Calls.of_CW Tryd.func81 rfl (by decide +kernel) (Nat.le_of_ble_eq_true (by kernel_rfl)) (CW.of_flat ?_)
  simp only [flat, List.cons_append, List.nil_append, List.append_nil]
  refine CWL.reg (ops := [(.assign (.const (Go.Value.slice none 0 0)), 22)]) (b := [(4, 1)]) (by kernel_rfl) ?_
  refine OpK.assign ?_
  refine CWL.reg (ops := [(.binOp .shr 69 (.tmp 2) (.const (Go.Value.int Go.IntKind.u64 24)) 118, 69), (.convert 69 5 (.tmp 1), 5), (.binOp .shr 69 (.tmp 2) (.const (Go.Value.int Go.IntKind.u64 16)) 118, 69), (.convert 69 5 (.tmp 5), 5), (.binOp .shr 69 (.tmp 2) (.const (Go.Value.int Go.IntKind.u64 8)) 118, 69), (.convert 69 5 (.tmp 9), 5), (.convert 69 5 (.tmp 2), 5), (.buildSlice 22 4 #[(0, .tmp 3), (1, .tmp 7), (2, .tmp 11), (3, .tmp 13)], 22), (.call ⟨.builtin .append, #[.tmp 0, .tmp 15], #[22, 22]⟩, 22)]) (b := [(4, 17), (18, 17), (17, 15), (16, 13), (15, 2), (14, 11), (13, 9), (12, 2), (11, 7), (10, 5), (9, 2), (8, 3), (7, 1), (6, 2), (5, 0)]) (by kernel_rfl) ?_
  refine OpK.shr rfl rfl (by decide) ?_
  refine OpK.convInt (k' := .u8) (by kernel_rfl) (by kernel_rfl) rfl ?_
  refine OpK.shr rfl rfl (by decide) ?_
  refine OpK.convInt (k' := .u8) (by kernel_rfl) (by kernel_rfl) rfl ?_
  refine OpK.shr rfl rfl (by decide) ?_
  refine OpK.convInt (k' := .u8) (by kernel_rfl) (by kernel_rfl) rfl ?_
  refine OpK.convInt (k' := .u8) (by kernel_rfl) (by kernel_rfl) rfl ?_
  refine OpK.buildS (by simp only [List.map_toArray, List.map_cons, List.map_nil]; exact run_bs4 (by kernel_rfl) u8 _ _ _ _) ?_
  refine OpK.run rfl hr ?_
  refine CWL.cons (CW.ret ?_)
  exact ⟨_, rfl, hg⟩

theorem call45 : Callable Tryd.prog 45 := ⟨Tryd.f45, Tryd.func45, by kernel_rfl, by kernel_rfl⟩
set_option maxHeartbeats 4000000 in
theorem c45 (w : World) (n : Int) (d : Value) (bs : List UInt8) (hd : Own 5 w d bs) (hl : bs.length + 2 ≤ Lim) : Calls Tryd.prog 45 #[d, .int .i16 n] w fun en w' => ∃ d', en = .returned d' ∧ Grew 5 w d w' d' (bs ++ be 2 n) := by
  refine Calls.of_CW Tryd.func45 rfl (by decide +kernel) (Nat.le_of_ble_eq_true (by kernel_rfl)) (CW.of_flat ?_)
  simp only [flat, List.cons_append, List.nil_append, List.append_nil]
  refine CWL.reg (ops := [(.assign (.const (Go.Value.slice none 0 0)), 22)]) (b := [(4, 1)]) (by kernel_rfl) ?_
  refine OpK.assign ?_
  refine CWL.reg (ops := [(.convert 47 27 (.tmp 2), 27), (.call ⟨.value (.func 70), #[.tmp 0, .tmp 1], #[22, 27]⟩, 22)]) (b := [(4, 3), (8, 3), (7, 1), (6, 2), (5, 0)]) (by kernel_rfl) ?_
  refine OpK.convInt (k' := .u16) (by kernel_rfl) (by kernel_rfl) rfl ?_
  refine OpK.asCall rfl call70 rfl ((c70 w (IntKind.u16.wrap n) d bs hd hl).mono ?_)
  rintro en w1 ⟨d1, he1, hg1⟩
  refine ⟨d1, he1, ?_⟩
  refine CWL.ret ?_
  rw [be2_u16] at hg1
  exact ⟨_, rfl, hg1⟩

theorem call61 : Callable Tryd.prog 61 := ⟨Tryd.f61, Tryd.func61, by kernel_rfl, by kernel_rfl⟩
set_option maxHeartbeats 4000000 in
theorem c61 (w : World) (n : Int) (d : Value) (bs : List UInt8) (hd : Own 5 w d bs) (hl : bs.length + 4 ≤ Lim) : Calls Tryd.prog 61 #[d, .int .i32 n] w fun en w' => ∃ d', en = .returned d' ∧ Grew 5 w d w' d' (bs ++ be 4 n) := by
  refine Calls.of_CW Tryd.func61 rfl (by decide +kernel) (Nat.le_of_ble_eq_true (by kernel_rfl)) (CW.of_flat ?_)
  simp only [flat, List.cons_append, List.nil_append, List.append_nil]
  refine CWL.reg (ops := [(.assign (.const (Go.Value.slice none 0 0)), 22)]) (b := [(4, 1)]) (by kernel_rfl) ?_
  refine OpK.assign ?_
  refine CWL.reg (ops := [(.convert 21 69 (.tmp 2), 69), (.call ⟨.value (.func 81), #[.tmp 0, .tmp 1], #[22, 69]⟩, 22)]) (b := [(4, 3), (8, 3), (7, 1), (6, 2), (5, 0)]) (by kernel_rfl) ?_
  refine OpK.convInt (k' := .u32) (by kernel_rfl) (by kernel_rfl) rfl ?_
  refine OpK.asCall rfl call81 rfl ((c81 w (IntKind.u32.wrap n) d bs hd hl).mono ?_)
  rintro en w1 ⟨d1, he1, hg1⟩
  refine ⟨d1, he1, ?_⟩
  refine CWL.ret ?_
  rw [be4_u32] at hg1
  exact ⟨_, rfl, hg1⟩

set_option maxHeartbeats 4000000 in
theorem ok45 (full : Bool) : ApOk Tryd.prog 5 full 45 (.val false .i16) := by
  intro w S v cs d bs hr hd hcl hl
  cases v <;> simp only [Rep, Wt.ty] at hr
  rename_i n
  obtain ⟨rfl, hn⟩ := hr
  exact c45 w n d bs hd hl

set_option maxHeartbeats 4000000 in
theorem ok70 (full : Bool) : ApOk Tryd.prog 5 full 70 (.val false .u16) := by
  intro w S v cs d bs hr hd hcl hl
  cases v <;> simp only [Rep, Wt.ty] at hr
  rename_i n
  obtain ⟨rfl, hn⟩ := hr
  exact c70 w n d bs hd hl

set_option maxHeartbeats 4000000 in
theorem ok61 (full : Bool) : ApOk Tryd.prog 5 full 61 (.val false .i32) := by
  intro w S v cs d bs hr hd hcl hl
  cases v <;> simp only [Rep, Wt.ty] at hr
  rename_i n
  obtain ⟨rfl, hn⟩ := hr
  exact c61 w n d bs hd hl

theorem call46 : Callable Tryd.prog 46 := ⟨Tryd.f46, Tryd.func46, by kernel_rfl, by kernel_rfl⟩
set_option maxHeartbeats 4000000 in
theorem c46 (w : World) (l : List UInt8) (d : Value) (bs : List UInt8) (hd : Own 5 w d bs) (hl : bs.length + (encStr false l).length ≤ Lim) : Calls Tryd.prog 46 #[d, strV l] w fun en w' => ∃ d', en = .returned d' ∧ Grew 5 w d w' d' (bs ++ encStr false l) := by
  unfold encStr at hl ⊢
  simp only [if_true, if_false, Bool.false_eq_true, List.length_append, be_length] at hl ⊢
  refine Calls.of_CW Tryd.func46 rfl (by decide +kernel) (Nat.le_of_ble_eq_true (by kernel_rfl)) (CW.of_flat ?_)
  simp only [flat, List.cons_append, List.nil_append, List.append_nil]
  refine CWL.reg (ops := [(.assign (.const (Go.Value.slice none 0 0)), 22)]) (b := [(4, 1)]) (by kernel_rfl) ?_
  refine OpK.assign ?_
  refine CWL.reg (ops := [(.call ⟨.builtin .len, #[.tmp 2], #[9]⟩, 3), (.convert 3 47 (.tmp 1), 47), (.call ⟨.value (.func 45), #[.tmp 0, .tmp 3], #[22, 47]⟩, 22)]) (b := [(0, 5), (9, 5), (8, 3), (7, 1), (6, 2), (5, 0)]) (by kernel_rfl) ?_
  refine OpK.lenStr (by kernel_rfl) rfl ?_
  refine OpK.convInt (k' := .i16) (by kernel_rfl) (by kernel_rfl) rfl ?_
  refine OpK.asCall rfl call45 rfl ((c45 w (IntKind.i16.wrap ((⟨l.toArray⟩ : ByteArray).size : Int)) d bs hd (by omega)).mono ?_)
  rintro en w1 ⟨d1, he1, hg1⟩
  refine ⟨d1, he1, ?_⟩
  rw [be2_i16, size_mk] at hg1
  obtain ⟨v2, w2, hr2, hg2⟩ := run_append_str (ty := 22) (t := 22) (u := 9) u8 und unds hg1.own (l := l) (by simp only [List.length_append, be_length]; omega)
  refine CWL.reg (ops := [(.call ⟨.builtin .append, #[.tmp 0, .tmp 2], #[22, 9]⟩, 22)]) (b := [(4, 1), (12, 1), (11, 2), (10, 0)]) (by kernel_rfl) ?_
  refine OpK.run rfl hr2 ?_
  refine CWL.ret ?_
  exact ⟨_, rfl, by rw [← List.append_assoc]; exact hg1.trans hg2⟩

set_option maxHeartbeats 4000000 in
theorem ok46 (full : Bool) : ApOk Tryd.prog 5 full 46 (.val false .str) := by
  intro w S v cs d bs hr hd hcl hl
  cases v <;> simp only [Rep, Wt.ty] at hr
  rename_i l
  subst hr
  exact c46 w l d bs hd hl

theorem call86 : Callable Tryd.prog 86 := ⟨Tryd.f86, Tryd.func86, by kernel_rfl, by kernel_rfl⟩
set_option maxHeartbeats 4000000 in
theorem c86 (w : World) (l : List UInt8) (a : Option Addr) (c : Nat) (d : Value) (bs : List UInt8) (ha : a = none → l = []) (hO : ∀ a', a = some a' → Oct w a' l ∧ a'.block < w.heap.size ∧ d.ownBlock ≠ some a'.block) (hd : Own 5 w d bs) (hl : bs.length + (encByt false l).length ≤ Lim) : Calls Tryd.prog 86 #[d, .slice a l.length c] w fun en w' => ∃ d', en = .returned d' ∧ Grew 5 w d w' d' (bs ++ encByt false l) := by
  unfold encByt at hl ⊢
  simp only [if_true, if_false, Bool.false_eq_true, List.length_append, be_length] at hl ⊢
  refine Calls.of_CW Tryd.func86 rfl (by decide +kernel) (Nat.le_of_ble_eq_true (by kernel_rfl)) (CW.of_flat ?_)
  simp only [flat, List.cons_append, List.nil_append, List.append_nil]
  refine CWL.reg (ops := [(.assign (.const (Go.Value.slice none 0 0)), 22)]) (b := [(4, 1)]) (by kernel_rfl) ?_
  refine OpK.assign ?_
  refine CWL.reg (ops := [(.call ⟨.builtin .len, #[.tmp 2], #[22]⟩, 3), (.convert 3 21 (.tmp 1), 21), (.call ⟨.value (.func 61), #[.tmp 0, .tmp 3], #[22, 21]⟩, 22)]) (b := [(0, 5), (9, 5), (8, 3), (7, 1), (6, 2), (5, 0)]) (by kernel_rfl) ?_
  refine OpK.len (e := 5) (by kernel_rfl) rfl ?_
  refine OpK.convInt (k' := .i32) (by kernel_rfl) (by kernel_rfl) rfl ?_
  refine OpK.asCall rfl call61 rfl ((c61 w (IntKind.i32.wrap (l.length : Int)) d bs hd (by omega)).mono ?_)
  rintro en w1 ⟨d1, he1, hg1⟩
  refine ⟨d1, he1, ?_⟩
  rw [be4_i32] at hg1
  obtain ⟨v2, w2, hr2, hg2⟩ := run_append_oct (ty := 22) (t := 22) u8 und hg1.own (a := a) (l := l) (c := c) ha (fun a' h => (hO a' h).1.keep (hg1.keep (hO a' h).2.1 (hO a' h).2.2)) (by simp only [List.length_append, be_length]; omega)
  refine CWL.reg (ops := [(.call ⟨.builtin .append, #[.tmp 0, .tmp 2], #[22, 22]⟩, 22)]) (b := [(4, 1), (12, 1), (11, 2), (10, 0)]) (by kernel_rfl) ?_
  refine OpK.run rfl hr2 ?_
  refine CWL.ret ?_
  exact ⟨_, rfl, by rw [← List.append_assoc]; exact hg1.trans hg2⟩

set_option maxHeartbeats 4000000 in
theorem ok86 (full : Bool) : ApOk Tryd.prog 5 full 86 (.val false .byt) := by
  intro w S v cs d bs hr hd hcl hl
  cases v <;> simp only [Rep, Wt.ty] at hr
  · subst hr
    exact c86 w [] none 0 d bs (fun _ => rfl) (fun a h => by cases h) hd hl
  · rename_i l
    obtain ⟨a, c, rfl, hc, hS, hO⟩ := hr
    exact c86 w l (some a) c d bs (fun h => by cases h) (fun a' h => by cases h; exact ⟨hO, hcl _ hS⟩) hd hl

theorem call65 : Callable Tryd.prog 65 := ⟨Tryd.f65, Tryd.func65, by kernel_rfl, by kernel_rfl⟩
set_option maxHeartbeats 4000000 in
theorem ok65 (full : Bool) : ApOk Tryd.prog 5 full 65 (.val false .nstr) := by
  intro w S v cs d bs hr hd hcl hl
  cases v <;> simp only [Rep, Wt.ty] at hr
  · skip
    subst hr
    refine Calls.of_CW Tryd.func65 rfl (by decide +kernel) (Nat.le_of_ble_eq_true (by kernel_rfl)) (CW.of_flat ?_)
    simp only [flat, List.cons_append, List.nil_append, List.append_nil]
    refine CWL.reg (ops := [(.assign (.const (Go.Value.slice none 0 0)), 22)]) (b := [(4, 1)]) (by kernel_rfl) ?_
    refine OpK.assign ?_
    refine CWL.reg (ops := [(.binOp .eql 65 (.tmp 2) (.const (Go.Value.pointer none)) 65, 4)]) (b := [(6, 1), (5, 2)]) (by kernel_rfl) ?_
    refine OpK.eqNilPtr (e := 9) (by kernel_rfl) rfl rfl ?_
    refine CWL.condT rfl ?_
    simp only [flat, List.cons_append, List.nil_append, List.append_nil]
    refine CWL.reg (ops := [(.call ⟨.value (.func 45), #[.tmp 0, .const (Go.Value.int Go.IntKind.i16 (-1))], #[22, 47]⟩, 22)]) (b := [(4, 1), (8, 1), (7, 0)]) (by kernel_rfl) ?_
    refine OpK.asCall rfl call45 rfl ((c45 w (-1) d bs hd hl).mono ?_)
    rintro en w1 ⟨d1, he1, hg1⟩
    refine ⟨d1, he1, ?_⟩
    refine CWL.ret ?_
    exact ⟨_, rfl, hg1⟩
  · skip
    rename_i l
    obtain ⟨g0, rfl, hS, hc0⟩ := hr
    refine Calls.of_CW Tryd.func65 rfl (by decide +kernel) (Nat.le_of_ble_eq_true (by kernel_rfl)) (CW.of_flat ?_)
    simp only [flat, List.cons_append, List.nil_append, List.append_nil]
    refine CWL.reg (ops := [(.assign (.const (Go.Value.slice none 0 0)), 22)]) (b := [(4, 1)]) (by kernel_rfl) ?_
    refine OpK.assign ?_
    refine CWL.reg (ops := [(.binOp .eql 65 (.tmp 2) (.const (Go.Value.pointer none)) 65, 4)]) (b := [(6, 1), (5, 2)]) (by kernel_rfl) ?_
    refine OpK.eqNilPtr (e := 9) (by kernel_rfl) rfl rfl ?_
    refine CWL.condF rfl ?_
    simp only [flat, List.cons_append, List.nil_append, List.append_nil]
    refine CWL.reg (ops := [(.nilCheck (.tmp 2), 0), (.load 9 (.tmp 1), 9), (.call ⟨.value (.func 46), #[.tmp 0, .tmp 3], #[22, 9]⟩, 22)]) (b := [(4, 5), (13, 5), (12, 3), (11, 1), (10, 2), (9, 0)]) (by kernel_rfl) ?_
    refine OpK.nilCheck rfl ?_
    refine OpK.load (by kernel_rfl) rfl hc0 ?_
    refine OpK.asCall rfl call46 rfl ((c46 w l d bs hd hl).mono ?_)
    rintro en w1 ⟨d1, he1, hg1⟩
    refine ⟨d1, he1, ?_⟩
    refine CWL.ret ?_
    exact ⟨_, rfl, hg1⟩

theorem call64 : Callable Tryd.prog 64 := ⟨Tryd.f64, Tryd.func64, by kernel_rfl, by kernel_rfl⟩
set_option maxHeartbeats 4000000 in
theorem ok64 (full : Bool) : ApOk Tryd.prog 5 full 64 (.val false .nbyt) := by
  intro w S v cs d bs hr hd hcl hl
  cases v <;> simp only [Rep, Wt.ty] at hr
  · skip
    subst hr
    refine Calls.of_CW Tryd.func64 rfl (by decide +kernel) (Nat.le_of_ble_eq_true (by kernel_rfl)) (CW.of_flat ?_)
    simp only [flat, List.cons_append, List.nil_append, List.append_nil]
    refine CWL.reg (ops := [(.assign (.const (Go.Value.slice none 0 0)), 22)]) (b := [(4, 1)]) (by kernel_rfl) ?_
    refine OpK.assign ?_
    refine CWL.reg (ops := [(.binOp .eql 22 (.tmp 2) (.const (Go.Value.slice none 0 0)) 22, 4)]) (b := [(6, 1), (5, 2)]) (by kernel_rfl) ?_
    refine OpK.eqNilSlice (s := 1) (by kernel_rfl) rfl rfl ?_
    refine CWL.condT rfl ?_
    simp only [flat, List.cons_append, List.nil_append, List.append_nil]
    refine CWL.reg (ops := [(.call ⟨.value (.func 61), #[.tmp 0, .const (Go.Value.int Go.IntKind.i32 (-1))], #[22, 21]⟩, 22)]) (b := [(4, 1), (8, 1), (7, 0)]) (by kernel_rfl) ?_
    refine OpK.asCall rfl call61 rfl ((c61 w (-1) d bs hd hl).mono ?_)
    rintro en w1 ⟨d1, he1, hg1⟩
    refine ⟨d1, he1, ?_⟩
    refine CWL.ret ?_
    exact ⟨_, rfl, hg1⟩
  · skip
    rename_i l
    obtain ⟨a, c, rfl, hc, hS, hO⟩ := hr
    refine Calls.of_CW Tryd.func64 rfl (by decide +kernel) (Nat.le_of_ble_eq_true (by kernel_rfl)) (CW.of_flat ?_)
    simp only [flat, List.cons_append, List.nil_append, List.append_nil]
    refine CWL.reg (ops := [(.assign (.const (Go.Value.slice none 0 0)), 22)]) (b := [(4, 1)]) (by kernel_rfl) ?_
    refine OpK.assign ?_
    refine CWL.reg (ops := [(.binOp .eql 22 (.tmp 2) (.const (Go.Value.slice none 0 0)) 22, 4)]) (b := [(6, 1), (5, 2)]) (by kernel_rfl) ?_
    refine OpK.eqNilSlice (s := 1) (by kernel_rfl) rfl rfl ?_
    refine CWL.condF rfl ?_
    simp only [flat, List.cons_append, List.nil_append, List.append_nil]
    refine CWL.reg (ops := [(.call ⟨.value (.func 86), #[.tmp 0, .tmp 2], #[22, 22]⟩, 22)]) (b := [(4, 1), (11, 1), (10, 2), (9, 0)]) (by kernel_rfl) ?_
    refine OpK.asCall rfl call86 rfl ((c86 w l (some a) c d bs (fun h => by cases h) (fun a' h => by cases h; exact ⟨hO, hcl _ hS⟩) hd hl).mono ?_)
    rintro en w1 ⟨d1, he1, hg1⟩
    refine ⟨d1, he1, ?_⟩
    refine CWL.ret ?_
    exact ⟨_, rfl, hg1⟩

theorem call49 : Callable Tryd.prog 49 := ⟨Tryd.f49, Tryd.func49, by kernel_rfl, by kernel_rfl⟩
set_option maxHeartbeats 4000000 in
theorem ok49 (full : Bool) : ApOk Tryd.prog 5 full 49 (.len false) := by
  intro w n d bs hd hl
  refine Calls.of_CW Tryd.func49 rfl (by decide +kernel) (Nat.le_of_ble_eq_true (by kernel_rfl)) (CW.of_flat ?_)
  simp only [flat, List.cons_append, List.nil_append, List.append_nil]
  refine CWL.reg (ops := [(.assign (.const (Go.Value.slice none 0 0)), 22)]) (b := [(4, 1)]) (by kernel_rfl) ?_
  refine OpK.assign ?_
  refine CWL.reg (ops := [(.convert 3 21 (.tmp 2), 21), (.call ⟨.value (.func 61), #[.tmp 0, .tmp 1], #[22, 21]⟩, 22)]) (b := [(4, 3), (8, 3), (7, 1), (6, 2), (5, 0)]) (by kernel_rfl) ?_
  refine OpK.convInt (k' := .i32) (by kernel_rfl) (by kernel_rfl) rfl ?_
  refine OpK.asCall rfl call61 rfl ((c61 w (IntKind.i32.wrap (n : Int)) d bs hd hl).mono ?_)
  rintro en w1 ⟨d1, he1, hg1⟩
  refine ⟨d1, he1, ?_⟩
  rw [be4_i32] at hg1
  refine CWL.ret ?_
  exact ⟨_, rfl, hg1⟩

def tab : List (Nat × Ap) := [(45, .val false .i16), (70, .val false .u16), (61, .val false .i32), (46, .val false .str), (65, .val false .nstr), (86, .val false .byt), (64, .val false .nbyt), (49, .len false)]
theorem sound0 : Sound Tryd.prog 5 false tab := Sound.of_all u8 (all_cons ⟨call45, ok45 false⟩ (all_cons ⟨call70, ok70 false⟩ (all_cons ⟨call61, ok61 false⟩ (all_cons ⟨call46, ok46 false⟩ (all_cons ⟨call65, ok65 false⟩ (all_cons ⟨call86, ok86 false⟩ (all_cons ⟨call64, ok64 false⟩ (all_cons ⟨call49, ok49 false⟩ all_nil))))))))
end Go.Proofs.YtmgnfbbgjahnhaaDoor.Snd
