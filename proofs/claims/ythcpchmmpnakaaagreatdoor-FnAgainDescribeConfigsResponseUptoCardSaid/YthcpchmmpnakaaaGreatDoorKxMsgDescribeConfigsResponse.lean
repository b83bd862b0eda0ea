/- The message DescribeConfigsResponse. -/
import Derived.Test.YthcpchmmpnakaaaGreatDoorKxSaid
import Derived.Test.YthcpchmmpnakaaaGreatDoorKxSeat
import Derived.Test.YthcpchmmpnakaaaGreatDoorKxTgW
import Derived.Test.YthcpchmmpnakaaaGreatDoorKxSnd
import Derived.Test.YthcpchmmpnakaaaGreatDoorKxSpecZ
import Derived.Test.YthcpchmmpnakaaaGreatDoorKxAgn
namespace Go.Proofs.YthcpchmmpnakaaaGreatDoor.DescribeConfigsResponse
open Go.Kx Go.RowKit Go.Proofs
set_option maxRecDepth 100000
set_option linter.unusedVariables false
set_option linter.unusedSimpArgs false

def T20 : Ty := .cons (.int .i16) (.cons (.int .i32) (.cons (.arr (.cons (.int .i16) (.cons (.nstr) (.cons (.int .i8) (.cons (.str) (.cons (.arr (.cons (.str) (.cons (.nstr) (.cons (.bool) (.cons (.bool) (.cons (.int .i8) (.cons (.bool) (.cons (.arr (.cons (.str) (.cons (.nstr) (.cons (.int .i8) (.cons (.tags) (.nil)))))) (.cons (.int .i8) (.cons (.nstr) (.cons (.tags) (.nil)))))))))))) (.cons (.tags) (.nil)))))))) (.cons (.tags) (.nil))))
def T56 : Ty := .cons (.int .i16) (.cons (.nstr) (.cons (.int .i8) (.cons (.str) (.cons (.arr (.cons (.str) (.cons (.nstr) (.cons (.bool) (.cons (.bool) (.cons (.int .i8) (.cons (.bool) (.cons (.arr (.cons (.str) (.cons (.nstr) (.cons (.int .i8) (.cons (.tags) (.nil)))))) (.cons (.int .i8) (.cons (.nstr) (.cons (.tags) (.nil)))))))))))) (.cons (.tags) (.nil))))))
def T67 : Ty := .cons (.str) (.cons (.nstr) (.cons (.bool) (.cons (.bool) (.cons (.int .i8) (.cons (.bool) (.cons (.arr (.cons (.str) (.cons (.nstr) (.cons (.int .i8) (.cons (.tags) (.nil)))))) (.cons (.int .i8) (.cons (.nstr) (.cons (.tags) (.nil))))))))))
def T69 : Ty := .cons (.str) (.cons (.nstr) (.cons (.int .i8) (.cons (.tags) (.nil))))
def T : Ty := .cons (.int .i16) (.cons (.int .i32) (.cons (.arr (.cons (.int .i16) (.cons (.nstr) (.cons (.int .i8) (.cons (.str) (.cons (.arr (.cons (.str) (.cons (.nstr) (.cons (.bool) (.cons (.bool) (.cons (.int .i8) (.cons (.bool) (.cons (.arr (.cons (.str) (.cons (.nstr) (.cons (.int .i8) (.cons (.tags) (.nil)))))) (.cons (.int .i8) (.cons (.nstr) (.cons (.tags) (.nil)))))))))))) (.cons (.tags) (.nil)))))))) (.cons (.tags) (.nil))))
def sch : Sch := (.val .all 1 .i32 (.arrS .all 2 none ((zeroV (.cons (.int .i16) (.cons (.nstr) (.cons (.int .i8) (.cons (.str) (.cons (.arr (.cons (.str) (.cons (.nstr) (.cons (.bool) (.cons (.bool) (.cons (.int .i8) (.cons (.bool) (.cons (.arr (.cons (.str) (.cons (.nstr) (.cons (.int .i8) (.cons (.tags) (.nil)))))) (.cons (.int .i8) (.cons (.nstr) (.cons (.tags) (.nil)))))))))))) (.cons (.tags) (.nil)))))))).puts []) (.val .all 0 .i16 (.val .all 1 .nstr (.val .all 2 .e8 (.val .all 3 .str (.arrS .all 4 none ((zeroV (.cons (.str) (.cons (.nstr) (.cons (.bool) (.cons (.bool) (.cons (.int .i8) (.cons (.bool) (.cons (.arr (.cons (.str) (.cons (.nstr) (.cons (.int .i8) (.cons (.tags) (.nil)))))) (.cons (.int .i8) (.cons (.nstr) (.cons (.tags) (.nil)))))))))))).puts [(4, .i (-1))]) (.val .all 0 .str (.val .all 1 .nstr (.val .all 2 .bool (.val (.rng 0 0) 3 .bool (.val (.ge 1) 4 .e8 (.val .all 5 .bool (.arrS (.ge 1) 6 none ((zeroV (.cons (.str) (.cons (.nstr) (.cons (.int .i8) (.cons (.tags) (.nil)))))).puts []) (.val .all 0 .str (.val .all 1 .nstr (.val .all 2 .e8 (.tags 3 .nil)))) (.val (.ge 3) 7 .e8 (.val (.ge 3) 8 .nstr (.tags 9 .nil)))))))))) (.tags 5 .nil)))))) (.tags 3 .nil)))
def ps : List (Nat × V) := []
def tabD : List (Nat × Rf) := [(20, .dflt T20 []), (56, .dflt T56 []), (67, .dflt T67 [(4, .i (-1))]), (69, .dflt T69 [])]

theorem call20 : Callable Tryz.prog 20 := ⟨Tryz.f20, Tryz.func20, by kernel_rfl, by kernel_rfl⟩
theorem call56 : Callable Tryz.prog 56 := ⟨Tryz.f56, Tryz.func56, by kernel_rfl, by kernel_rfl⟩
theorem call67 : Callable Tryz.prog 67 := ⟨Tryz.f67, Tryz.func67, by kernel_rfl, by kernel_rfl⟩
theorem call69 : Callable Tryz.prog 69 := ⟨Tryz.f69, Tryz.func69, by kernel_rfl, by kernel_rfl⟩
theorem dfAll (eV : Value) : ∀ x ∈ tabD, Callable Tryz.prog x.1 ∧ RfOk Tryz.prog 1 eV x.1 x.2 := (all_cons ⟨call20, chkDf_ok Tryz.func20 (by kernel_rfl)⟩ (all_cons ⟨call56, chkDf_ok Tryz.func56 (by kernel_rfl)⟩ (all_cons ⟨call67, chkDf_ok Tryz.func67 (by kernel_rfl)⟩ (all_cons ⟨call69, chkDf_ok Tryz.func69 (by kernel_rfl)⟩ all_nil))))
def tab : List (Nat × Rf) := tabD ++ Seat.tabR
theorem rd (eV : Value) : ∀ f a, rfAt tab f = some a → Callable Tryz.prog f ∧ RfOk Tryz.prog 1 eV f a := rfAt_all fun x hx => (List.mem_append.1 hx).elim (dfAll eV x) (Seat.rdAll eV x)
def F : AgF := ⟨12, 16, 17, 18⟩

theorem cal12 : Callable Tryz.prog 12 := ⟨Tryz.f12, Tryz.func12, by kernel_rfl, by kernel_rfl⟩
theorem cal16 : Callable Tryz.prog 16 := ⟨Tryz.f16, Tryz.func16, by kernel_rfl, by kernel_rfl⟩
theorem cal17 : Callable Tryz.prog 17 := ⟨Tryz.f17, Tryz.func17, by kernel_rfl, by kernel_rfl⟩
theorem cal18 : Callable Tryz.prog 18 := ⟨Tryz.f18, Tryz.func18, by kernel_rfl, by kernel_rfl⟩
theorem cal30 : Callable Tryz.prog 30 := ⟨Tryz.f30, Tryz.func30, by kernel_rfl, by kernel_rfl⟩
theorem cal13 : Callable Tryz.prog 13 := ⟨Tryz.f13, Tryz.func13, by kernel_rfl, by kernel_rfl⟩
theorem cal5 : Callable Tryz.prog 5 := ⟨Tryz.f5, Tryz.func5, by kernel_rfl, by kernel_rfl⟩
theorem cal9 : Callable Tryz.prog 9 := ⟨Tryz.f9, Tryz.func9, by kernel_rfl, by kernel_rfl⟩
theorem cal3 : Callable Tryz.prog 3 := ⟨Tryz.f3, Tryz.func3, by kernel_rfl, by kernel_rfl⟩
set_option maxHeartbeats 4000000 in
theorem msg (hsort : SortIs Tryz.prog 83 84 126 53) : Msg Tryz.prog 5 true 104 1 T sch (some 4) tab Snd.tab F 30 ps ps 4 where
  rdT := Seat.rdT
  rd := rd
  wr := TgW.sound1 hsort
  full := .inl rfl
  np := ⟨_, 62, Tryz.func12, by kernel_rfl, cal12⟩
  sv := ⟨_, Tryz.func16, by kernel_rfl, cal16⟩
  rfn := ⟨_, Tryz.func17, by kernel_rfl, cal17, cal30⟩
  read := ⟨_, Tryz.func30, fun eV fx h => by cases fx; kernel_rfl; kernel_rfl⟩
  at_ := ⟨_, Tryz.func18, by kernel_rfl, cal18⟩
  ok := okAll 4 (by decide +kernel)
  start := fun ver => by kernel_rfl
  ver := fun ver => by kernel_rfl
  key := by decide
  most := by decide

theorem maxIs : MaxIs Tryz.prog 5 4 := chkMax_is (gE := 1) (eV := .nilIface) (rd _) Tryz.func5 (show chkMax Tryz.prog _ 12 13 = true by kernel_rfl) cal5 Tryz.func12 (show chkNp Tryz.prog tab _ T = some (62, ps) by kernel_rfl) cal12 Tryz.func13 (by kernel_rfl) cal13 (by decide)

/-- What the message's fields are, as the reference says them. -/
noncomputable def M : Option (List Fld × Int) := (acall Tryz.prog 40 7 [] ⟨0, []⟩).bind (rdMsg 8)
theorem hM0 : M.isSome = true := by kernel_rfl
noncomputable def flds : List Fld := (M.get hM0).1
noncomputable def flex : Int := (M.get hM0).2
theorem hM : M = some (flds, flex) := (Option.some_get hM0).symm.trans (congrArg some (Prod.eta (M.get hM0)).symm)
theorem makes : MakesMsg Tryz.prog 7 8 flds flex := makes_msg (by kernel_rfl) hM
theorem specOk : specB (some 4) flex sch flds 4 = true := by kernel_rfl
theorem plainOk : plainB 8 flds = true := by kernel_rfl
theorem costOk : Nat.ble (costF 8 flds) 1000 = true := by kernel_rfl
theorem smallOk : smallB sch = true := by decide
theorem mixed : Tryz.prog.follows .mixedOrders = true := Sp.mixed

set_option maxHeartbeats 4000000 in
theorem law (hsort : SortIs Tryz.prog 83 84 126 53) {w : World} {n : Nat} {t : Tr} {cs : List Value} {tE : TypeId} {vE : Value} (hn : n < 256) (hT : TrIs w w.heap.size t cs) (htw : t.tw ≤ 1048576) (herr : w.cell? ⟨1, 0, none⟩ = some (.iface tE vE)) (hgE : 1 < w.heap.size) :
    Calls Tryz.prog 3 #[.int .u8 (n : Int), .agg (Array.mk cs)] w fun en w' => en = .returned (.bool true) ∧ Ch (fun _ => False) w w' := by
  have hone := hT.one
  refine (Calls.of_CW (R := fun x w' => x = .bool true ∧ Ch (fun _ => False) w w') Tryz.func3 rfl (by decide +kernel) (Nat.le_of_ble_eq_true (by kernel_rfl)) (CW.of_flat ?_)).mono fun en w' ⟨x, he, hx, hR⟩ => ⟨by rw [he, hx], hR⟩
  simp only [flat, List.cons_append, List.nil_append, List.append_nil]
  refine CWL.reg (ops := [(.box 26 (.tmp 2), 0), (.assign (.const (Go.Value.bool false)), 4)]) (b := [(4, 3), (3, 1)]) (by kernel_rfl) ?_
  refine OpK.boxG (cs := cs) rfl fun w1 g hb1 hc1 hg1 hs1 => ?_
  refine OpK.assign ?_
  show CWL _ _ _ _ _ _
  have hT1 := hT.keep (w' := w1) fun k hk => hc1.block k hk fun h => h
  refine CWL.reg (ops := [(.load 26 (.tmp 6), 26), (.call ⟨.value (.func 4), #[.tmp 1], #[26]⟩, 4), (.unOp .not 4 (.tmp 3), 4)]) (b := [(11, 5), (10, 3), (9, 1)]) (by kernel_rfl) ?_
  refine OpK.loadA (n := 5) (by kernel_rfl) rfl hb1.ata hone.2 ?_
  refine OpK.asCall rfl Sp.call4 rfl ((Sp.fits2 w1 w.heap.size (by omega) t cs hT1).mono ?_)
  rintro en w2 ⟨x2, he2, ⟨b, rfl⟩, hc2⟩
  refine ⟨_, he2, ?_⟩
  refine OpK.not rfl ?_
  show CWL _ _ _ _ _ _
  have hc12 : Ch (fun _ => False) w w2 := hc1.trans' hc2
  cases b with
  | false =>
    refine CWL.condT rfl ?_
    simp only [flat, List.cons_append, List.nil_append, List.append_nil]
    refine CWL.reg (ops := [(.assign (.const (Go.Value.bool true)), 4)]) (b := [(4, 1)]) (by kernel_rfl) ?_
    refine OpK.assign ?_
    show CWL _ _ _ _ _ _
    refine CWL.ret ?_
    exact ⟨_, rfl, rfl, hc12⟩
  | true =>
  refine CWL.condF rfl ?_
  simp only [flat, List.cons_append, List.nil_append, List.append_nil]
  refine CWL.reg (ops := [(.call ⟨.value (.func 5), #[], #[]⟩, 3)]) (b := [(5, 1), (12, 1)]) (by kernel_rfl) ?_
  refine OpK.asCall rfl maxIs.1 rfl ((maxIs.2 w2).mono ?_)
  rintro en w3 ⟨he3, hc3⟩
  refine ⟨_, he3, ?_⟩
  show CWL _ _ _ _ _ _
  have hc13 : Ch (fun _ => False) w w3 := hc12.trans' hc3
  have hb3 : Blk w3 g 26 cs := (hb1.ch hc2).ch hc3
  refine CWL.reg (ops := [(.binOp .lss 3 (.tmp 10) (.const (Go.Value.int Go.IntKind.i64 0)) 3, 4)]) (b := [(14, 1), (13, 10)]) (by kernel_rfl) ?_
  refine OpK.cmp rfl rfl rfl ?_
  show CWL _ _ _ _ _ _
  refine CWL.condF rfl ?_
  simp only [flat, List.cons_append, List.nil_append, List.append_nil]
  generalize hver : ((n % (4 + 1) : Nat) : Int) = ver
  have hv0 : 0 ≤ ver := by omega
  have hvm : ver ≤ (4 : Nat) := by have := Nat.mod_lt n (show 0 < 4 + 1 by omega); omega
  obtain ⟨hfx, hmat⟩ := specB_at specOk hv0 hvm
  have hshort := part_short (ver := ver) (fx := flexB flex ver) costOk htw
  refine CWL.regD0 mixed [(1, true), (2, true), (4, true), (0, false), (3, false), (5, false), (6, true)] (by decide +kernel) ?_
  refine HW.early rfl rfl (Yi.move) ?_
  refine HW.early rfl rfl (Yi.move) ?_
  refine HW.early rfl rfl (Yi.loadA (n := 5) (by kernel_rfl) rfl (fun w' hw' => (hb3.ch hw').ata) hone.2) ?_
  refine HW.next rfl rfl ?_
  refine OpK.asCall rfl makes.1 rfl ((makes.2 _).mono ?_)
  rintro en w4 ⟨vF, he4, hF4, hc4⟩
  have hc34 : Ch (fun _ => False) w3 w4 := (Ch.drew _ _).trans' hc4
  refine ⟨_, he4, hc34, ?_⟩
  refine HW.next rfl rfl ?_
  refine OpK.asCall rfl Seat.verIs.1 rfl ((Seat.verIs.2 w4 n 4 hn (by decide)).mono ?_)
  rintro en w5 ⟨v5, he5, hv5, rfl⟩
  rw [hver] at hv5
  subst hv5
  refine ⟨_, he5, hc34, ?_⟩
  have hc14 : Ch (fun _ => False) w w5 := hc13.trans' hc34
  have hT4 := (hT.keep (w' := w5) fun k hk => hc14.block k hk fun h => h).up hc14.size
  refine HW.next rfl rfl ?_
  refine OpK.asCall rfl Sp.call6 rfl ((Sp.write w5 w5.heap.size 8 8 (Nat.le_refl _) ver flex flds vF hF4 plainOk t cs hT4 (by simp only [Lim]; omega)).mono ?_)
  rintro en w6 ⟨d6, he6, hg6⟩
  rw [hfx] at hg6
  refine ⟨_, he6, hc34.trans' hg6.new_ch, ?_⟩
  have hc16 : Ch (fun _ => False) w w6 := hc14.trans' hg6.new_ch
  refine HW.early rfl rfl (Yi.assign) ?_
  refine HW.done ?_
  show CWL _ _ _ _ _ _
  rw [hfx] at hshort
  generalize hbd : partF ver (flexAt (some 4) ver) 8 flds t = bs at hg6 hshort
  have hpl := again_plain (t := t) (d := 7) (v0 := V0 T ps ps ver) hmat ((msg hsort).ok ver hv0 hvm) smallOk plainOk ((msg hsort).start ver)
  rw [hbd] at hpl
  have hsrc6 := own_oct hg6.own
  refine CWL.reg (ops := [(.call ⟨.value (.func 8), #[.tmp 0, .tmp 10], #[5, 3]⟩, 3), (.call ⟨.value (.func 9), #[.tmp 1, .tmp 12], #[3, 22]⟩, 35), (.extract (.tmp 3) 0, 22), (.extract (.tmp 3) 1, 4)]) (b := [(8, 7), (7, 5), (28, 7), (27, 5), (21, 3), (26, 3), (25, 12), (24, 1), (23, 10), (22, 0)]) (by kernel_rfl) ?_
  refine OpK.asCall rfl Seat.verIs.1 rfl ((Seat.verIs.2 w6 n 4 hn (by decide)).mono ?_)
  rintro en w7 ⟨v7, he7, hv7, rfl⟩
  rw [hver] at hv7
  subst hv7
  refine ⟨_, he7, ?_⟩
  refine OpK.asCall rfl cal9 rfl ((chkAg_calls (msg hsort) Tryz.func9 (by kernel_rfl) hv0 hvm hsrc6 (fun k hk => hg6.own.lt hk) hshort ((ch_cell hc16 (a := ⟨1, 0, none⟩) hgE (fun h => h) rfl).trans herr) (Nat.lt_of_lt_of_le hgE hc16.size)).mono ?_)
  rintro en w8 ⟨x8, b8, he8, hc8, hag⟩
  rw [hpl] at hag
  obtain ⟨rfl, hoct⟩ := hag
  refine ⟨_, he8, ?_⟩
  refine OpK.extract (vs := #[x8, .bool true]) (v := x8) rfl rfl ?_
  refine OpK.extract (vs := #[x8, .bool true]) (v := .bool true) rfl rfl ?_
  show CWL _ _ _ _ _ _
  refine CWL.cons (CW.region ?_)
  refine RW.want rfl ?_
  refine OpK.move ?_
  refine RW.want rfl ?_
  refine OpK.move ?_
  refine RW.want rfl ?_
  refine OpK.move ?_
  refine RW.want rfl ?_
  refine OpK.move ?_
  refine RW.want rfl ?_
  refine OpK.asCall rfl Seat.sameIs.1 rfl ((Seat.sameIs.2 w8 (fun k => k < w8.heap.size) bs bs _ _ (hoct.mono fun k hk => hk.2) ((hsrc6.keep fun k hk => hc8.block k (hg6.own.lt hk) fun h => h).mono fun k hk => Nat.lt_of_lt_of_le (hg6.own.lt hk) hc8.size) (fun k hk => hk) (by omega) (by omega)).mono ?_)
  rintro en w9 ⟨he9, hc9⟩
  rw [beq_self_eq_true] at he9
  refine ⟨_, he9, ?_⟩
  refine RW.want rfl ?_
  refine OpK.pick rfl ?_
  refine RW.want rfl ?_
  refine OpK.assign ?_
  refine RW.z ?_
  show CWL _ _ _ _ _ _
  refine CWL.ret ?_
  exact ⟨_, rfl, rfl, (hc16.trans' hc8).trans' hc9⟩

end Go.Proofs.YthcpchmmpnakaaaGreatDoor.DescribeConfigsResponse
