/- The message DescribeTopicPartitionsRequest. -/
import Derived.Test.YteeggoipikjpiaaGreatDoorKxEach
import Derived.Test.YteeggoipikjpiaaGreatDoorKxSeat
import Derived.Test.YteeggoipikjpiaaGreatDoorKxTgW
import Derived.Test.YteeggoipikjpiaaGreatDoorKxSnd
import Derived.Test.YteeggoipikjpiaaGreatDoorKxSpecZ
import Derived.Test.YteeggoipikjpiaaGreatDoorKxAgn
namespace Go.Proofs.YteeggoipikjpiaaGreatDoor.DescribeTopicPartitionsRequest
open Go.Kx Go.RowKit Go.Proofs
set_option maxRecDepth 100000
set_option linter.unusedVariables false
set_option linter.unusedSimpArgs false

def T111 : Ty := .cons (.int .i16) (.cons (.arr (.cons (.str) (.cons (.tags) (.nil)))) (.cons (.int .i32) (.cons (.nst (.cons (.str) (.cons (.int .i32) (.cons (.tags) (.nil))))) (.cons (.tags) (.nil)))))
def T152 : Ty := .cons (.str) (.cons (.tags) (.nil))
def T153 : Ty := .cons (.str) (.cons (.int .i32) (.cons (.tags) (.nil)))
def T : Ty := .cons (.int .i16) (.cons (.arr (.cons (.str) (.cons (.tags) (.nil)))) (.cons (.int .i32) (.cons (.nst (.cons (.str) (.cons (.int .i32) (.cons (.tags) (.nil))))) (.cons (.tags) (.nil)))))
def sch : Sch := (.arrS .all 1 none ((zeroV (.cons (.str) (.cons (.tags) (.nil)))).puts []) (.val .all 0 .str (.tags 1 .nil)) (.val .all 2 .i32 (.opt .all 3 ((zeroV (.cons (.str) (.cons (.int .i32) (.cons (.tags) (.nil))))).puts []) (.val .all 0 .str (.val .all 1 .i32 (.tags 2 .nil))) (.tags 4 .nil))))
def ps : List (Nat × V) := [(2, .i 2000)]
def tabD : List (Nat × Rf) := [(111, .dflt T111 [(2, .i 2000)]), (152, .dflt T152 []), (153, .dflt T153 [])]

theorem call111 : Callable Tryz.prog 111 := ⟨Tryz.f111, Tryz.func111, by kernel_rfl, by kernel_rfl⟩
theorem call152 : Callable Tryz.prog 152 := ⟨Tryz.f152, Tryz.func152, by kernel_rfl, by kernel_rfl⟩
theorem call153 : Callable Tryz.prog 153 := ⟨Tryz.f153, Tryz.func153, by kernel_rfl, by kernel_rfl⟩
theorem dfAll (eV : Value) : ∀ x ∈ tabD, Callable Tryz.prog x.1 ∧ RfOk Tryz.prog 0 eV x.1 x.2 := (all_cons ⟨call111, chkDf_ok Tryz.func111 (by kernel_rfl)⟩ (all_cons ⟨call152, chkDf_ok Tryz.func152 (by kernel_rfl)⟩ (all_cons ⟨call153, chkDf_ok Tryz.func153 (by kernel_rfl)⟩ all_nil)))
def tab : List (Nat × Rf) := tabD ++ Seat.tabR
theorem rd (eV : Value) : ∀ f a, rfAt tab f = some a → Callable Tryz.prog f ∧ RfOk Tryz.prog 0 eV f a := rfAt_all fun x hx => (List.mem_append.1 hx).elim (dfAll eV x) (Seat.rdAll eV x)
def F : AgF := ⟨65, 69, 70, 71⟩

theorem cal65 : Callable Tryz.prog 65 := ⟨Tryz.f65, Tryz.func65, by kernel_rfl, by kernel_rfl⟩
theorem cal69 : Callable Tryz.prog 69 := ⟨Tryz.f69, Tryz.func69, by kernel_rfl, by kernel_rfl⟩
theorem cal70 : Callable Tryz.prog 70 := ⟨Tryz.f70, Tryz.func70, by kernel_rfl, by kernel_rfl⟩
theorem cal71 : Callable Tryz.prog 71 := ⟨Tryz.f71, Tryz.func71, by kernel_rfl, by kernel_rfl⟩
theorem cal112 : Callable Tryz.prog 112 := ⟨Tryz.f112, Tryz.func112, by kernel_rfl, by kernel_rfl⟩
theorem cal66 : Callable Tryz.prog 66 := ⟨Tryz.f66, Tryz.func66, by kernel_rfl, by kernel_rfl⟩
theorem cal29 : Callable Tryz.prog 29 := ⟨Tryz.f29, Tryz.func29, by kernel_rfl, by kernel_rfl⟩
theorem cal31 : Callable Tryz.prog 31 := ⟨Tryz.f31, Tryz.func31, by kernel_rfl, by kernel_rfl⟩
theorem cal8 : Callable Tryz.prog 8 := ⟨Tryz.f8, Tryz.func8, by kernel_rfl, by kernel_rfl⟩
set_option maxHeartbeats 4000000 in
theorem msg (hsort : SortIs Tryz.prog 162 163 127 65) : Msg Tryz.prog 5 true 139 0 T sch (some 0) tab Snd.tab F 112 ps ps 0 where
  rdT := Seat.rdT
  rd := rd
  wr := TgW.sound1 hsort
  full := .inl rfl
  np := ⟨_, 118, Tryz.func65, by kernel_rfl, cal65⟩
  sv := ⟨_, Tryz.func69, by kernel_rfl, cal69⟩
  rfn := ⟨_, Tryz.func70, by kernel_rfl, cal70, cal112⟩
  read := ⟨_, Tryz.func112, fun eV fx h => by cases fx; kernel_rfl; kernel_rfl⟩
  at_ := ⟨_, Tryz.func71, by kernel_rfl, cal71⟩
  ok := okAll 0 (by decide +kernel)
  start := fun ver => by kernel_rfl
  ver := fun ver => by kernel_rfl
  key := by decide
  most := by decide

theorem maxIs : MaxIs Tryz.prog 29 0 := chkMax_is (gE := 0) (eV := .nilIface) (rd _) Tryz.func29 (show chkMax Tryz.prog _ 65 66 = true by kernel_rfl) cal29 Tryz.func65 (show chkNp Tryz.prog tab _ T = some (118, ps) by kernel_rfl) cal65 Tryz.func66 (by kernel_rfl) cal66 (by decide)

/-- What the message's fields are, as the reference says them. -/
noncomputable def M : Option (List Fld × Int) := (acall Tryz.prog 40 30 [] ⟨0, []⟩).bind (rdMsg 8)
theorem hM0 : M.isSome = true := by kernel_rfl
noncomputable def flds : List Fld := (M.get hM0).1
noncomputable def flex : Int := (M.get hM0).2
theorem hM : M = some (flds, flex) := (Option.some_get hM0).symm
theorem makes : MakesMsg Tryz.prog 30 8 flds flex := makes_msg (by kernel_rfl) hM
theorem specOk : specB (some 0) flex sch flds 0 = true := by kernel_rfl
theorem plainOk : plainB 8 flds = true := by kernel_rfl
theorem costOk : Nat.ble (costF 8 flds) 1000 = true := by kernel_rfl
theorem smallOk : smallB sch = true := by decide
theorem mixed : Tryz.prog.follows .mixedOrders = true := Sp.mixed

set_option maxHeartbeats 4000000 in
theorem law (hsort : SortIs Tryz.prog 162 163 127 65) {w : World} {n : Nat} {t : Tr} {cs : List Value} {tE : TypeId} {vE : Value} (hn : n < 256) (hT : TrIs w w.heap.size t cs) (htw : t.tw ≤ 1048576) (herr : w.cell? ⟨0, 0, none⟩ = some (.iface tE vE)) (hgE : 0 < w.heap.size) :
    Calls Tryz.prog 8 #[.int .u8 (n : Int), .agg (Array.mk cs)] w fun en w' => en = .returned (.bool true) ∧ Ch (fun _ => False) w w' := by
  have hone := hT.one
  refine (Calls.of_CW (R := fun x w' => x = .bool true ∧ Ch (fun _ => False) w w') Tryz.func8 rfl (by decide +kernel) (Nat.le_of_ble_eq_true (by kernel_rfl)) (CW.of_flat ?_)).mono fun en w' ⟨x, he, hx, hR⟩ => ⟨by rw [he, hx], hR⟩
  simp only [flat, List.cons_append, List.nil_append, List.append_nil]
  refine CWL.reg (ops := [(.box 26 (.tmp 2), 0), (.assign (.const (Go.Value.bool false)), 4)]) (b := [(4, 3), (3, 1)]) (by kernel_rfl) ?_
  refine OpK.boxG (cs := cs) rfl fun w1 g hb1 hc1 hg1 hs1 => ?_
  refine OpK.assign ?_
  show CWL _ _ _ _ _ _
  have hT1 := hT.keep (w' := w1) fun k hk => hc1.block k hk fun h => h
  refine CWL.reg (ops := [(.load 26 (.tmp 6), 26), (.call ⟨.value (.func 10), #[.tmp 1], #[26]⟩, 4), (.unOp .not 4 (.tmp 3), 4)]) (b := [(11, 5), (10, 3), (9, 1)]) (by kernel_rfl) ?_
  refine OpK.loadA (n := 5) (by kernel_rfl) rfl hb1.ata hone.2 ?_
  refine OpK.asCall rfl Sp.call10 rfl ((Sp.fits2 w1 w.heap.size (by omega) t cs hT1).mono ?_)
  rintro en w2 ⟨x2, he2, ⟨b, rfl⟩, hc2⟩
  refine ⟨_, he2, ?_⟩
  refine OpK.not rfl ?_
  show CWL _ _ _ _ _ _
  have hc12 : Ch (fun _ => False) w w2 := hc1.trans' hc2
  cases b with
  | false =>
    refine CWL.condT rfl ?_
    simp only [flat, List.cons_append, List.nil_append, List.append_nil]
    refine CWL.reg (ops := [(.assign (.const (Go.Value.bool true)), 4)]) (b := [(4, 1)]) (by kernel_rfl) ?_
    refine OpK.assign ?_
    show CWL _ _ _ _ _ _
    refine CWL.ret ?_
    exact ⟨_, rfl, rfl, hc12⟩
  | true =>
  refine CWL.condF rfl ?_
  simp only [flat, List.cons_append, List.nil_append, List.append_nil]
  refine CWL.reg (ops := [(.call ⟨.value (.func 29), #[], #[]⟩, 3)]) (b := [(5, 1), (12, 1)]) (by kernel_rfl) ?_
  refine OpK.asCall rfl maxIs.1 rfl ((maxIs.2 w2).mono ?_)
  rintro en w3 ⟨he3, hc3⟩
  refine ⟨_, he3, ?_⟩
  show CWL _ _ _ _ _ _
  have hc13 : Ch (fun _ => False) w w3 := hc12.trans' hc3
  have hb3 : Blk w3 g 26 cs := (hb1.ch hc2).ch hc3
  refine CWL.reg (ops := [(.binOp .lss 3 (.tmp 10) (.const (Go.Value.int Go.IntKind.i64 0)) 3, 4)]) (b := [(14, 1), (13, 10)]) (by kernel_rfl) ?_
  refine OpK.cmp rfl rfl rfl ?_
  show CWL _ _ _ _ _ _
  refine CWL.condF rfl ?_
  simp only [flat, List.cons_append, List.nil_append, List.append_nil]
  generalize hver : ((n % (0 + 1) : Nat) : Int) = ver
  have hv0 : 0 ≤ ver := by omega
  have hvm : ver ≤ (0 : Nat) := by have := Nat.mod_lt n (show 0 < 0 + 1 by omega); omega
  obtain ⟨hfx, hmat⟩ := specB_at specOk hv0 hvm
  have hshort := part_short (ver := ver) (fx := flexB flex ver) costOk htw
  refine CWL.regD0 mixed [(1, true), (2, true), (4, true), (0, false), (3, false), (5, false), (6, true)] (by decide +kernel) ?_
  refine HW.early rfl rfl (Yi.move) ?_
  refine HW.early rfl rfl (Yi.move) ?_
  refine HW.early rfl rfl (Yi.loadA (n := 5) (by kernel_rfl) rfl (fun w' hw' => (hb3.ch hw').ata) hone.2) ?_
  refine HW.next rfl rfl ?_
  refine OpK.asCall rfl makes.1 rfl ((makes.2 _).mono ?_)
  rintro en w4 ⟨vF, he4, hF4, hc4⟩
  have hc34 : Ch (fun _ => False) w3 w4 := (Ch.drew _ _).trans' hc4
  refine ⟨_, he4, hc34, ?_⟩
  refine HW.next rfl rfl ?_
  refine OpK.asCall rfl Seat.verIs.1 rfl ((Seat.verIs.2 w4 n 0 hn (by decide)).mono ?_)
  rintro en w5 ⟨v5, he5, hv5, rfl⟩
  rw [hver] at hv5
  subst hv5
  refine ⟨_, he5, hc34, ?_⟩
  have hc14 : Ch (fun _ => False) w w5 := hc13.trans' hc34
  have hT4 := (hT.keep (w' := w5) fun k hk => hc14.block k hk fun h => h).up hc14.size
  refine HW.next rfl rfl ?_
  refine OpK.asCall rfl Sp.call12 rfl ((Sp.write w5 w5.heap.size 8 8 (Nat.le_refl _) ver flex flds vF hF4 plainOk t cs hT4 (by simp only [Lim]; omega)).mono ?_)
  rintro en w6 ⟨d6, he6, hg6⟩
  rw [hfx] at hg6
  refine ⟨_, he6, hc34.trans' hg6.new_ch, ?_⟩
  have hc16 : Ch (fun _ => False) w w6 := hc14.trans' hg6.new_ch
  refine HW.early rfl rfl (Yi.assign) ?_
  refine HW.done ?_
  show CWL _ _ _ _ _ _
  rw [hfx] at hshort
  generalize hbd : partF ver (flexAt (some 0) ver) 8 flds t = bs at hg6 hshort
  have hpl := again_plain (t := t) (d := 7) (v0 := V0 T ps ps ver) hmat ((msg hsort).ok ver hv0 hvm) smallOk plainOk ((msg hsort).start ver)
  rw [hbd] at hpl
  have hsrc6 := own_oct hg6.own
  refine CWL.reg (ops := [(.call ⟨.value (.func 14), #[.tmp 0, .tmp 10], #[5, 3]⟩, 3), (.call ⟨.value (.func 31), #[.tmp 1, .tmp 12], #[3, 22]⟩, 35), (.extract (.tmp 3) 0, 22), (.extract (.tmp 3) 1, 4)]) (b := [(8, 7), (7, 5), (28, 7), (27, 5), (21, 3), (26, 3), (25, 12), (24, 1), (23, 10), (22, 0)]) (by kernel_rfl) ?_
  refine OpK.asCall rfl Seat.verIs.1 rfl ((Seat.verIs.2 w6 n 0 hn (by decide)).mono ?_)
  rintro en w7 ⟨v7, he7, hv7, rfl⟩
  rw [hver] at hv7
  subst hv7
  refine ⟨_, he7, ?_⟩
  refine OpK.asCall rfl cal31 rfl ((chkAg_calls (msg hsort) Tryz.func31 (by kernel_rfl) hv0 hvm hsrc6 (fun k hk => hg6.own.lt hk) hshort ((ch_cell hc16 (a := ⟨0, 0, none⟩) hgE (fun h => h) rfl).trans herr) (Nat.lt_of_lt_of_le hgE hc16.size)).mono ?_)
  rintro en w8 ⟨x8, b8, he8, hc8, hag⟩
  rw [hpl] at hag
  obtain ⟨rfl, hoct⟩ := hag
  refine ⟨_, he8, ?_⟩
  refine OpK.extract (vs := #[x8, .bool true]) (v := x8) rfl rfl ?_
  refine OpK.extract (vs := #[x8, .bool true]) (v := .bool true) rfl rfl ?_
  show CWL _ _ _ _ _ _
  refine CWL.cons (CW.region ?_)
  refine RW.want rfl ?_
  refine OpK.move ?_
  refine RW.want rfl ?_
  refine OpK.move ?_
  refine RW.want rfl ?_
  refine OpK.move ?_
  refine RW.want rfl ?_
  refine OpK.move ?_
  refine RW.want rfl ?_
  refine OpK.asCall rfl Seat.sameIs.1 rfl ((Seat.sameIs.2 w8 (fun k => k < w8.heap.size) bs bs _ _ (hoct.mono fun k hk => hk.2) ((hsrc6.keep fun k hk => hc8.block k (hg6.own.lt hk) fun h => h).mono fun k hk => Nat.lt_of_lt_of_le (hg6.own.lt hk) hc8.size) (fun k hk => hk) (by omega) (by omega)).mono ?_)
  rintro en w9 ⟨he9, hc9⟩
  rw [beq_self_eq_true] at he9
  refine ⟨_, he9, ?_⟩
  refine RW.want rfl ?_
  refine OpK.pick rfl ?_
  refine RW.want rfl ?_
  refine OpK.assign ?_
  refine RW.z ?_
  show CWL _ _ _ _ _ _
  refine CWL.ret ?_
  exact ⟨_, rfl, rfl, (hc16.trans' hc8).trans' hc9⟩

end Go.Proofs.YteeggoipikjpiaaGreatDoor.DescribeTopicPartitionsRequest
