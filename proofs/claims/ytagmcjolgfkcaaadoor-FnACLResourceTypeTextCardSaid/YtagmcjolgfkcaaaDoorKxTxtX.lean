/- Walks over texts: one form, errors. -/
import Derived.Test.YtagmcjolgfkcaaaDoorKxTxtW
import Derived.Ground.NamesProg
import Derived.Shelf.Lay
import Derived.Shelf.Strings.TrimSpace
import Derived.Shelf.Strings.OnBuilder
namespace Go.Proofs
open Go.RowKit Go.Shelf
shelf_lay Lays.n163 Nm 163 at Tryd as Tryd.laysTrim
shelf_lay Lays.n159 Nm 159 at Tryd as Tryd.laysLower
end Go.Proofs
namespace Go.Proofs.YtagmcjolgfkcaaaDoor.Txt
open Go.Kx Go.RowKit Go.Proofs Go.Shelf
set_option maxRecDepth 100000
set_option linter.unusedVariables false
set_option linter.unusedSimpArgs false

theorem extra : Builder.Extra Tryd.prog Tryd.laysLower_ren where
  sizeBuilder := by kernel_rfl
  liesBuilder := by kernel_rfl
  t5 := Tryd.laysLower.t5
  a5 := Tryd.laysLower.a5
  z5 := Tryd.laysLower.z5
  v5 := Tryd.laysLower.v5
  infoByte := by kernel_rfl
  cellsByte := by kernel_rfl
  sizeByte := by kernel_rfl
  neB5 := by decide

theorem tab_keep {P : Program} {w w' : World} {name : String} {k : IntKind} {zs : List Int} (h : Lib.TabIs P w name k zs) (hc : Ch Old w w') : Lib.TabIs P w' name k zs := by
  unfold Lib.TabIs World.var? at h ⊢
  obtain ⟨g, hg, h2⟩ := Option.bind_eq_some_iff.1 h
  rw [hg, Option.bind_some]
  cases hb : w.heap[g]? with
  | none => rw [hb] at h2; cases h2
  | some o =>
    have hlt : g < w.heap.size := by
      rcases Nat.lt_or_ge g w.heap.size with h | h
      · exact h
      · rw [Array.getElem?_eq_none h] at hb; cases hb
    rw [hc.block g hlt fun h => h]
    exact h2
abbrev Tab (w : World) : Prop := Lib.TabIs Tryd.prog w "strings.asciiSpace" .u8 Lib.asciiSpaceTab
def Asc (l : List UInt8) : Prop := ∀ b ∈ l, b.toNat < 128
theorem Asc.at {l : List UInt8} (h : Asc l) : ∀ (j : Nat) (b : UInt8), (⟨l.toArray⟩ : ByteArray).data.toList[j]? = some b → b.toNat < 128 := fun j b hb => h b (List.mem_of_getElem? hb)
theorem Asc.filter {l : List UInt8} (h : Asc l) (p : UInt8 → Bool) : Asc (l.filter p) := fun b hb => h b (List.mem_filter.1 hb).1
theorem Asc.trim {l : List UInt8} (h : Asc l) : Asc (Lib.trimSpace l) := fun b hb => h b (trim_mem hb)
theorem call28 : Callable Tryd.prog 28 := ⟨Tryd.f28, Tryd.func28, by kernel_rfl, by kernel_rfl⟩
theorem call29 : Callable Tryd.prog 29 := ⟨Tryd.f29, Tryd.func29, by kernel_rfl, by kernel_rfl⟩
theorem trim (w : World) (l : List UInt8) (hl : l.length ≤ 2147483648) (ha : Asc l) (ht : Tab w) : Calls Tryd.prog 28 #[strV l] w fun en w' => en = .returned (strV (Lib.trimSpace l)) ∧ Ch Old w w' :=
  (Any.strings_TrimSpace Tryd.laysTrim ⟨by kernel_rfl⟩ ⟨l.toArray⟩ w (by rw [size_mk]; omega) ha.at ht).mono fun en w' ⟨he, hw⟩ => ⟨he, by rw [hw]; exact (Ch.of_below (Lib.bytesWorld_below w _ _)).mono fun i hi h => by omega⟩
theorem lower (w : World) (l : List UInt8) (hl : l.length ≤ 2147483648) (ha : Asc l) : Calls Tryd.prog 29 #[strV l] w fun en w' => en = .returned (strV (Lib.toLowerA l)) ∧ Ch Old w w' :=
  (Any.strings_ToLower_ascii Tryd.laysLower extra ⟨l.toArray⟩ w (by rw [size_mk]; omega) ha.at).mono fun en w' ⟨he, hw⟩ => ⟨he, (Ch.of_below hw).mono fun i hi h => by omega⟩
theorem call25 : Callable Tryd.prog 25 := ⟨Tryd.f25, Tryd.func25, by kernel_rfl, by kernel_rfl⟩
set_option maxHeartbeats 4000000 in
theorem strnorm (w : World) (l : List UInt8) (hl : l.length ≤ 2147483648) (ha : Asc l) (ht : Tab w) : Calls Tryd.prog 25 #[strV l] w fun en w' => ∃ x, en = .returned x ∧ x = strV (normN l) ∧ Ch Old w w' := by
  refine Calls.of_CW Tryd.func25 rfl (by decide +kernel) (Nat.le_of_ble_eq_true (by kernel_rfl)) (CW.of_flat ?_)
  simp only [flat, List.cons_append, List.nil_append, List.append_nil]
  have h1 := filter_len (p := (· != 46)) l
  have h2 := filter_len (p := (· != 95)) (l.filter (· != 46))
  have h3 := filter_len (p := (· != 45)) ((l.filter (· != 46)).filter (· != 95))
  have h4 := trim_len (((l.filter (· != 46)).filter (· != 95)).filter (· != 45))
  refine CWL.reg (ops := [(.assign (.const (Go.Value.string {data := #[]})), 9)]) (b := [(2, 1)]) (by kernel_rfl) ?_
  refine OpK.assign ?_
  show CWL _ _ _ _ _ _
  refine CWL.reg (ops := [(.call ⟨.value (.func 27), #[.tmp 0, .const (Go.Value.string {data := #[46]}), .const (Go.Value.string {data := #[]})], #[9, 9, 9]⟩, 9)]) (b := [(0, 1), (4, 1), (3, 0)]) (by kernel_rfl) ?_
  refine OpK.asCall rfl call27 rfl ((zzReplaceAll w l 46 (by omega)).mono ?_)
  rintro en w1 ⟨x, he, rfl, hc1⟩
  refine ⟨_, he, ?_⟩
  show CWL _ _ _ _ _ _
  refine CWL.reg (ops := [(.call ⟨.value (.func 27), #[.tmp 0, .const (Go.Value.string {data := #[95]}), .const (Go.Value.string {data := #[]})], #[9, 9, 9]⟩, 9)]) (b := [(0, 1), (6, 1), (5, 0)]) (by kernel_rfl) ?_
  refine OpK.asCall rfl call27 rfl ((zzReplaceAll w1 (l.filter (· != 46)) 95 (by omega)).mono ?_)
  rintro en w2 ⟨x, he, rfl, hc2⟩
  refine ⟨_, he, ?_⟩
  show CWL _ _ _ _ _ _
  refine CWL.reg (ops := [(.call ⟨.value (.func 27), #[.tmp 0, .const (Go.Value.string {data := #[45]}), .const (Go.Value.string {data := #[]})], #[9, 9, 9]⟩, 9)]) (b := [(0, 1), (8, 1), (7, 0)]) (by kernel_rfl) ?_
  refine OpK.asCall rfl call27 rfl ((zzReplaceAll w2 ((l.filter (· != 46)).filter (· != 95)) 45 (by omega)).mono ?_)
  rintro en w3 ⟨x, he, rfl, hc3⟩
  refine ⟨_, he, ?_⟩
  show CWL _ _ _ _ _ _
  have hc13 := (hc1.trans' hc2).trans' hc3
  refine CWL.reg (ops := [(.call ⟨.value (.func 28), #[.tmp 0], #[9]⟩, 9)]) (b := [(0, 1), (10, 1), (9, 0)]) (by kernel_rfl) ?_
  refine OpK.asCall rfl call28 rfl ((trim w3 (((l.filter (· != 46)).filter (· != 95)).filter (· != 45)) (by omega) (((ha.filter _).filter _).filter _) (tab_keep ht hc13)).mono ?_)
  rintro en w4 ⟨he, hc4⟩
  refine ⟨_, he, ?_⟩
  show CWL _ _ _ _ _ _
  refine CWL.reg (ops := [(.call ⟨.value (.func 29), #[.tmp 0], #[9]⟩, 9)]) (b := [(0, 1), (12, 1), (11, 0)]) (by kernel_rfl) ?_
  refine OpK.asCall rfl call29 rfl ((lower w4 (Lib.trimSpace (((l.filter (· != 46)).filter (· != 95)).filter (· != 45))) (by omega) (((ha.filter _).filter _).filter _).trim).mono ?_)
  rintro en w5 ⟨he, hc5⟩
  refine ⟨_, he, ?_⟩
  show CWL _ _ _ _ _ _
  refine CWL.reg (ops := []) (b := [(2, 0), (13, 0)]) (by kernel_rfl) ?_
  show CWL _ _ _ _ _ _
  refine CWL.ret ?_
  exact ⟨_, rfl, by rw [← norm_eq]; rfl, (hc13.trans' hc4).trans' hc5⟩

/-! ### An error is made -/
theorem call26 : Callable Tryd.prog 26 := ⟨Tryd.f26, Tryd.func26, by kernel_rfl, by kernel_rfl⟩
theorem errNew (w : World) (l : List UInt8) : Calls Tryd.prog 26 #[strV l] w fun en w' => ∃ x, en = .returned x ∧ (∃ t v, x = .iface t v) ∧ Ch Old w w' := by
  refine Calls.of_CW Tryd.func26 rfl (by decide +kernel) (Nat.le_of_ble_eq_true (by kernel_rfl)) (CW.of_flat ?_)
  simp only [flat, List.cons_append, List.nil_append, List.append_nil]
  refine CWL.reg (ops := [(.assign (.const (Go.Value.nilIface)), 40)]) (b := [(2, 1)]) (by kernel_rfl) ?_
  refine OpK.assign ?_
  show CWL _ _ _ _ _ _
  refine CWL.reg (ops := [(.build 60 #[(0, .tmp 0)], 60), (.box 60 (.tmp 1), 58), (.makeInterface 58 (.tmp 3), 40)]) (b := [(2, 5), (6, 5), (5, 3), (4, 1), (3, 0)]) (by kernel_rfl) ?_
  refine OpK.build (cells := #[strV l]) (by kernel_rfl) ?_
  refine OpK.boxG (cs := [strV l]) rfl fun w1 g hb1 hc1 hg1 hs1 => ?_
  refine OpK.makeP (e := 60) (by kernel_rfl) rfl ?_
  show CWL _ _ _ _ _ _
  refine CWL.ret ?_
  exact ⟨_, rfl, ⟨_, _, rfl⟩, hc1⟩

end Go.Proofs.YtagmcjolgfkcaaaDoor.Txt
