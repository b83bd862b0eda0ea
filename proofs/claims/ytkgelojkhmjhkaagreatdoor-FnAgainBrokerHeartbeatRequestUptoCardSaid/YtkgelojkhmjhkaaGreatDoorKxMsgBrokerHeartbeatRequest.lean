/- The message BrokerHeartbeatRequest: its law. -/
import Derived.Test.YtkgelojkhmjhkaaGreatDoorKxKbD
import Derived.Test.YtkgelojkhmjhkaaGreatDoorKxKbT
import Derived.Test.YtkgelojkhmjhkaaGreatDoorKxKbP
import Derived.Test.YtkgelojkhmjhkaaGreatDoorKxKnG
import Derived.Test.YtkgelojkhmjhkaaGreatDoorKxSpecV
import Derived.Test.YtkgelojkhmjhkaaGreatDoorKxSpecZ
namespace Go.Proofs.YtkgelojkhmjhkaaGreatDoor.BrokerHeartbeatRequest
open Go.Kx Go.RowKit Go.Proofs
set_option maxRecDepth 100000
set_option linter.unusedSimpArgs false
set_option linter.unusedVariables false

def F : AgF := ⟨12, 15, 16, 17⟩
theorem cal12 : Callable Tryz.prog 12 := ⟨Tryz.f12, Tryz.func12, by kernel_rfl, by kernel_rfl⟩
theorem cal15 : Callable Tryz.prog 15 := ⟨Tryz.f15, Tryz.func15, by kernel_rfl, by kernel_rfl⟩
theorem cal16 : Callable Tryz.prog 16 := ⟨Tryz.f16, Tryz.func16, by kernel_rfl, by kernel_rfl⟩
theorem cal17 : Callable Tryz.prog 17 := ⟨Tryz.f17, Tryz.func17, by kernel_rfl, by kernel_rfl⟩
theorem cal28 : Callable Tryz.prog 28 := ⟨Tryz.f28, Tryz.func28, by kernel_rfl, by kernel_rfl⟩
theorem cal13 : Callable Tryz.prog 13 := ⟨Tryz.f13, Tryz.func13, by kernel_rfl, by kernel_rfl⟩
theorem cal5 : Callable Tryz.prog 5 := ⟨Tryz.f5, Tryz.func5, by kernel_rfl, by kernel_rfl⟩
theorem cal9 : Callable Tryz.prog 9 := ⟨Tryz.f9, Tryz.func9, by kernel_rfl, by kernel_rfl⟩
theorem maxIs : MaxIs Tryz.prog 5 2 := chkMax_is (gE := 1) (eV := .nilIface) (rd _) Tryz.func5 (show chkMax Tryz.prog _ 12 13 = true by kernel_rfl) cal5 Tryz.func12 (show chkNp Tryz.prog tab _ T = some (61, ps) by kernel_rfl) cal12 Tryz.func13 (by kernel_rfl) cal13 (by decide)
/-- The octets of a tree, as the message is of them. -/
def GB (ver : Int) (l : List UInt8) (v : V) : Prop := ∃ m wS wF tl, v = mkB m wS wF tl ∧ m.length = 6 ∧ (V.st m).fld 0 = .i ver ∧ encB ver m wS wF tl = l
set_option maxHeartbeats 4000000 in
theorem msgB (hsort : SortIs Tryz.prog 66 67 74 52) {ver : Int} (h0 : 0 ≤ ver) {t : Tr} (hl : (partK ver fl0 t).length < 1073741824) : MsgG Tryz.prog 5 61 1 T tab F 28 ps ver (partK ver fl0 t) (GB ver (partK ver fl0 t)) where
  rd := rd
  u8 := (TgW.sound1 hsort).u8
  np := ⟨_, Tryz.func12, by kernel_rfl, cal12⟩
  sv := ⟨_, Tryz.func15, by kernel_rfl, cal15⟩
  rfn := ⟨_, Tryz.func16, by kernel_rfl, cal16, cal28⟩
  read := fun hb hrep herr hgE hsrc hS => by
    obtain ⟨he, hG⟩ := ref_is h0 t
    refine (readIs hG he h0 hb hrep herr hgE hsrc hS).mono fun en w' ⟨x, h1, h2, h3, m', wS, wF, tl', cells', h4, h5, h6, h7, h8, h9⟩ => ⟨x, h1, h2, h3, mkB m' wS wF tl', cells', h4, h5, h6, m', wS, wF, tl', rfl, h7, h8, h9⟩
  at_ := ⟨cal17, fun {w g v} hG hi hg => by
    obtain ⟨m, wS, wF, tl, rfl, hm, hv, he⟩ := hG
    have := writeIs hsort hm hi hg hv h0 (by rw [he]; simp only [Lim]; omega)
    rw [he] at this
    exact this⟩

/-! ### What the reference writes -/
set_option maxHeartbeats 4000000 in
theorem writeK (w : World) (B dd : Nat) (hB : B ≤ w.heap.size) (ver flex : Int) (hfx : flexB flex ver = true) (flds : List Fld) (htg : ∀ f ∈ flds, f.tag < 1000) (hkd : ∀ f ∈ flds, f.tag ≥ 0 → f.kind = 11) (hpt : ∀ f ∈ flds, f.parts = false) (vF : Value) (hF : FldsIs w B dd flds vF) (t : Tr) (cs : List Value) (hT : TrIs w B t cs) (hl : (partK ver flds t).length < 1073741824) :
    Calls Tryz.prog 6 #[.agg #[vF, .int .i64 flex], .int .i64 ver, .agg cs.toArray] w fun en w' => ∃ x, en = .returned x ∧ Sp.New w w' x (partK ver flds t) := by
  have hone := hT.one
  refine Calls.of_CW Tryz.func6 rfl (by decide +kernel) (Nat.le_of_ble_eq_true (by kernel_rfl)) (CW.of_flat ?_)
  simp only [flat, List.cons_append, List.nil_append, List.append_nil]
  refine CWL.reg (ops := [(.box 32 (.tmp 0), 0), (.box 26 (.tmp 4), 0), (.assign (.const (Go.Value.slice none 0 0)), 22)]) (b := [(6, 5), (5, 3), (3, 1)]) (by kernel_rfl) ?_
  refine OpK.boxG (cs := [vF, .int .i64 flex]) rfl fun w1 g hb1 hc1 hg1 hs1 => ?_
  refine OpK.boxG (cs := cs) rfl fun w2 gt hbt2 hc2 hg2 hs2 => ?_
  refine OpK.assign ?_
  show CWL _ _ _ _ _ _
  have hb2 := hb1.ch hc2
  have hcw2 : Ch (fun _ => False) w w2 := hc1.trans' hc2
  have hk2 : ∀ k, k < B → w2.heap[k]? = w.heap[k]? := fun k hk => hcw2.block k (by omega) fun h => h
  obtain ⟨h1, h2⟩ : flex ≥ 0 ∧ ver ≥ flex := by
    unfold flexB at hfx
    simpa using hfx
  refine CWL.cons (CW.region ?_)
  refine RW.want rfl ?_
  refine OpK.fieldAddr (off := 0) (by kernel_rfl) rfl ?_
  refine RW.want rfl ?_
  refine OpK.load (by kernel_rfl) rfl (hb2.cell 0) ?_
  refine RW.want rfl ?_
  refine OpK.move ?_
  refine RW.want rfl ?_
  refine OpK.fieldAddr (off := 1) (by kernel_rfl) rfl ?_
  refine RW.want rfl ?_
  refine OpK.load (by kernel_rfl) rfl (hb2.cell 1) ?_
  refine RW.want rfl ?_
  refine OpK.cmp (r := true) (by rw [← decide_eq_true h1]; rfl) rfl rfl ?_
  refine RW.want rfl ?_
  refine OpK.move ?_
  refine RW.want rfl ?_
  refine OpK.move ?_
  refine RW.want rfl ?_
  refine OpK.fieldAddr (off := 1) (by kernel_rfl) rfl ?_
  refine RW.want rfl ?_
  refine OpK.load (by kernel_rfl) rfl (hb2.cell 1) ?_
  refine RW.want rfl ?_
  refine OpK.cmp (r := true) (by rw [← decide_eq_true h2]; rfl) rfl rfl ?_
  refine RW.want rfl ?_
  refine OpK.pick rfl ?_
  refine RW.want rfl ?_
  refine OpK.loadA (n := 5) (by kernel_rfl) rfl hbt2.ata hone.2 ?_
  refine RW.want rfl ?_
  refine OpK.asCall rfl Sp.call14 rfl ((Sp.partK_is ver flds htg hkd hpt w2 B dd vF t cs (by omega) (hF.keep hk2) (hT.keep hk2) hl).mono ?_)
  rintro en w3 ⟨d3, he3, hg3⟩
  refine ⟨_, he3, ?_⟩
  refine RW.want rfl ?_
  refine OpK.assign ?_
  refine RW.z ?_
  show CWL _ _ _ _ _ _
  refine CWL.ret ?_
  exact ⟨_, rfl, hg3.pre hcw2⟩

/-- What the message's fields are, as the reference says them. -/
noncomputable def M : Option (List Fld × Int) := (acall Tryz.prog 40 7 [] ⟨0, []⟩).bind (rdMsg 8)
theorem hM : M = some (fl0, 0) := by kernel_rfl
theorem mixedS : Tryz.prog.follows .mixedOrders = true := by kernel_rfl
theorem makes : MakesMsg Tryz.prog 7 8 fl0 0 := makes_msg mixedS hM
theorem htg0 : ∀ f ∈ fl0, f.tag < 1000 := by decide
theorem hkd0 : ∀ f ∈ fl0, f.tag ≥ 0 → f.kind = 11 := by decide
theorem hpt0 : ∀ f ∈ fl0, f.parts = false := by decide
theorem flexOk {ver : Int} (h : 0 ≤ ver) : flexB 0 ver = true := by unfold flexB; simp [h]

set_option maxHeartbeats 4000000 in
theorem law (hsort : SortIs Tryz.prog 66 67 74 52) {w : World} {n : Nat} {t : Tr} {cs : List Value} {tE : TypeId} {vE : Value} (hn : n < 256) (hT : TrIs w w.heap.size t cs) (htw : t.tw ≤ 1048576) (herr : w.cell? ⟨1, 0, none⟩ = some (.iface tE vE)) (hgE : 1 < w.heap.size) :
    Calls Tryz.prog 3 #[.int .u8 (n : Int), .agg (Array.mk cs)] w fun en w' => en = .returned (.bool true) ∧ Ch (fun _ => False) w w' := by
  have hone := hT.one
  refine (Calls.of_CW (R := fun x w' => x = .bool true ∧ Ch (fun _ => False) w w') Tryz.func3 rfl (by decide +kernel) (Nat.le_of_ble_eq_true (by kernel_rfl)) (CW.of_flat ?_)).mono fun en w' ⟨x, he, hx, hR⟩ => ⟨by rw [he, hx], hR⟩
  simp only [flat, List.cons_append, List.nil_append, List.append_nil]
  refine CWL.reg (ops := [(.box 26 (.tmp 2), 0), (.assign (.const (Go.Value.bool false)), 4)]) (b := [(4, 3), (3, 1)]) (by kernel_rfl) ?_
  refine OpK.boxG (cs := cs) rfl fun w1 g hb1 hc1 hg1 hs1 => ?_
  refine OpK.assign ?_
  show CWL _ _ _ _ _ _
  have hT1 := hT.keep (w' := w1) fun k hk => hc1.block k hk fun h => h
  refine CWL.reg (ops := [(.load 26 (.tmp 6), 26), (.call ⟨.value (.func 4), #[.tmp 1], #[26]⟩, 4), (.unOp .not 4 (.tmp 3), 4)]) (b := [(11, 5), (10, 3), (9, 1)]) (by kernel_rfl) ?_
  refine OpK.loadA (n := 5) (by kernel_rfl) rfl hb1.ata hone.2 ?_
  refine OpK.asCall rfl Sp.call4 rfl ((Sp.fits2 w1 w.heap.size (by omega) t cs hT1).mono ?_)
  rintro en w2 ⟨x2, he2, ⟨b, rfl⟩, hc2⟩
  refine ⟨_, he2, ?_⟩
  refine OpK.not rfl ?_
  show CWL _ _ _ _ _ _
  have hc12 : Ch (fun _ => False) w w2 := hc1.trans' hc2
  cases b with
  | false =>
    refine CWL.condT rfl ?_
    simp only [flat, List.cons_append, List.nil_append, List.append_nil]
    refine CWL.reg (ops := [(.assign (.const (Go.Value.bool true)), 4)]) (b := [(4, 1)]) (by kernel_rfl) ?_
    refine OpK.assign ?_
    show CWL _ _ _ _ _ _
    refine CWL.ret ?_
    exact ⟨_, rfl, rfl, hc12⟩
  | true =>
  refine CWL.condF rfl ?_
  simp only [flat, List.cons_append, List.nil_append, List.append_nil]
  refine CWL.reg (ops := [(.call ⟨.value (.func 5), #[], #[]⟩, 3)]) (b := [(5, 1), (12, 1)]) (by kernel_rfl) ?_
  refine OpK.asCall rfl maxIs.1 rfl ((maxIs.2 w2).mono ?_)
  rintro en w3 ⟨he3, hc3⟩
  refine ⟨_, he3, ?_⟩
  show CWL _ _ _ _ _ _
  have hc13 : Ch (fun _ => False) w w3 := hc12.trans' hc3
  have hb3 : Blk w3 g 26 cs := (hb1.ch hc2).ch hc3
  refine CWL.reg (ops := [(.binOp .lss 3 (.tmp 10) (.const (Go.Value.int Go.IntKind.i64 0)) 3, 4)]) (b := [(14, 1), (13, 10)]) (by kernel_rfl) ?_
  refine OpK.cmp rfl rfl rfl ?_
  show CWL _ _ _ _ _ _
  refine CWL.condF rfl ?_
  simp only [flat, List.cons_append, List.nil_append, List.append_nil]
  generalize hver : ((n % (2 + 1) : Nat) : Int) = ver
  have hv0 : 0 ≤ ver := by omega
  have hvm : ver ≤ (2 : Nat) := by have := Nat.mod_lt n (show 0 < 2 + 1 by omega); omega
  have hshort := ref_short hv0 htw
  refine CWL.regD0 mixed [(1, true), (2, true), (4, true), (0, false), (3, false), (5, false), (6, true)] (by decide +kernel) ?_
  refine HW.early rfl rfl (Yi.move) ?_
  refine HW.early rfl rfl (Yi.move) ?_
  refine HW.early rfl rfl (Yi.loadA (n := 5) (by kernel_rfl) rfl (fun w' hw' => (hb3.ch hw').ata) hone.2) ?_
  refine HW.next rfl rfl ?_
  refine OpK.asCall rfl makes.1 rfl ((makes.2 _).mono ?_)
  rintro en w4 ⟨vF, he4, hF4, hc4⟩
  have hc34 : Ch (fun _ => False) w3 w4 := (Ch.drew _ _).trans' hc4
  refine ⟨_, he4, hc34, ?_⟩
  refine HW.next rfl rfl ?_
  refine OpK.asCall rfl Seat.verIs.1 rfl ((Seat.verIs.2 w4 n 2 hn (by decide)).mono ?_)
  rintro en w5 ⟨v5, he5, hv5, rfl⟩
  rw [hver] at hv5
  subst hv5
  refine ⟨_, he5, hc34, ?_⟩
  have hc14 : Ch (fun _ => False) w w5 := hc13.trans' hc34
  have hT4 := (hT.keep (w' := w5) fun k hk => hc14.block k hk fun h => h).up hc14.size
  refine HW.next rfl rfl ?_
  refine OpK.asCall rfl Sp.call6 rfl ((writeK w5 w5.heap.size 8 (Nat.le_refl _) ver 0 (flexOk hv0) fl0 htg0 hkd0 hpt0 vF hF4 t cs hT4 hshort).mono ?_)
  rintro en w6 ⟨d6, he6, hg6⟩
  refine ⟨_, he6, hc34.trans' hg6.new_ch, ?_⟩
  have hc16 : Ch (fun _ => False) w w6 := hc14.trans' hg6.new_ch
  refine HW.early rfl rfl (Yi.assign) ?_
  refine HW.done ?_
  show CWL _ _ _ _ _ _
  have hM := msgB hsort hv0 (t := t) hshort
  generalize partK ver fl0 t = bs at hg6 hshort hM
  have hsrc6 := own_oct hg6.own
  refine CWL.reg (ops := [(.call ⟨.value (.func 8), #[.tmp 0, .tmp 10], #[5, 3]⟩, 3), (.call ⟨.value (.func 9), #[.tmp 1, .tmp 12], #[3, 22]⟩, 35), (.extract (.tmp 3) 0, 22), (.extract (.tmp 3) 1, 4)]) (b := [(8, 7), (7, 5), (28, 7), (27, 5), (21, 3), (26, 3), (25, 12), (24, 1), (23, 10), (22, 0)]) (by kernel_rfl) ?_
  refine OpK.asCall rfl Seat.verIs.1 rfl ((Seat.verIs.2 w6 n 2 hn (by decide)).mono ?_)
  rintro en w7 ⟨v7, he7, hv7, rfl⟩
  rw [hver] at hv7
  subst hv7
  refine ⟨_, he7, ?_⟩
  refine OpK.asCall rfl cal9 rfl ((chkAgG_calls hM Tryz.func9 (by kernel_rfl) hv0 (by omega) hsrc6 (fun k hk => hg6.own.lt hk) hshort ((ch_cell hc16 (a := ⟨1, 0, none⟩) hgE (fun h => h) rfl).trans herr) (Nat.lt_of_lt_of_le hgE hc16.size)).mono ?_)
  rintro en w8 ⟨x8, b8, he8, hc8, hag⟩
  obtain ⟨rfl, hoct⟩ := hag
  refine ⟨_, he8, ?_⟩
  refine OpK.extract (vs := #[x8, .bool true]) (v := x8) rfl rfl ?_
  refine OpK.extract (vs := #[x8, .bool true]) (v := .bool true) rfl rfl ?_
  show CWL _ _ _ _ _ _
  refine CWL.cons (CW.region ?_)
  refine RW.want rfl ?_
  refine OpK.move ?_
  refine RW.want rfl ?_
  refine OpK.move ?_
  refine RW.want rfl ?_
  refine OpK.move ?_
  refine RW.want rfl ?_
  refine OpK.move ?_
  refine RW.want rfl ?_
  refine OpK.asCall rfl Seat.sameIs.1 rfl ((Seat.sameIs.2 w8 (fun k => k < w8.heap.size) bs bs _ _ (hoct.mono fun k hk => hk.2) ((hsrc6.keep fun k hk => hc8.block k (hg6.own.lt hk) fun h => h).mono fun k hk => Nat.lt_of_lt_of_le (hg6.own.lt hk) hc8.size) (fun k hk => hk) (by omega) (by omega)).mono ?_)
  rintro en w9 ⟨he9, hc9⟩
  rw [beq_self_eq_true] at he9
  refine ⟨_, he9, ?_⟩
  refine RW.want rfl ?_
  refine OpK.pick rfl ?_
  refine RW.want rfl ?_
  refine OpK.assign ?_
  refine RW.z ?_
  show CWL _ _ _ _ _ _
  refine CWL.ret ?_
  exact ⟨_, rfl, rfl, (hc16.trans' hc8).trans' hc9⟩

end Go.Proofs.YtkgelojkhmjhkaaGreatDoor.BrokerHeartbeatRequest
