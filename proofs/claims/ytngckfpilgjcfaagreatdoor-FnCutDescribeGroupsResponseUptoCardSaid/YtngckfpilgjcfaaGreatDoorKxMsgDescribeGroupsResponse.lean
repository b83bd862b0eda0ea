/- The message DescribeGroupsResponse. -/
import Derived.Test.YtngckfpilgjcfaaGreatDoorKxSaid
import Derived.Test.YtngckfpilgjcfaaGreatDoorKxSeat
import Derived.Test.YtngckfpilgjcfaaGreatDoorKxTgW
import Derived.Test.YtngckfpilgjcfaaGreatDoorKxSnd
import Derived.Test.YtngckfpilgjcfaaGreatDoorKxSpecZ
import Derived.Test.YtngckfpilgjcfaaGreatDoorKxAgn
import Derived.Test.YtngckfpilgjcfaaGreatDoorKxKept
namespace Go.Proofs.YtngckfpilgjcfaaGreatDoor.DescribeGroupsResponse
open Go.Kx Go.RowKit Go.Proofs
set_option maxRecDepth 100000
set_option linter.unusedVariables false
set_option linter.unusedSimpArgs false

def T158 : Ty := .cons (.int .i16) (.cons (.int .i32) (.cons (.arr (.cons (.int .i16) (.cons (.nstr) (.cons (.str) (.cons (.str) (.cons (.str) (.cons (.str) (.cons (.arr (.cons (.str) (.cons (.nstr) (.cons (.str) (.cons (.str) (.cons (.bytes) (.cons (.bytes) (.cons (.tags) (.nil))))))))) (.cons (.int .i32) (.cons (.tags) (.nil))))))))))) (.cons (.tags) (.nil))))
def T210 : Ty := .cons (.int .i16) (.cons (.nstr) (.cons (.str) (.cons (.str) (.cons (.str) (.cons (.str) (.cons (.arr (.cons (.str) (.cons (.nstr) (.cons (.str) (.cons (.str) (.cons (.bytes) (.cons (.bytes) (.cons (.tags) (.nil))))))))) (.cons (.int .i32) (.cons (.tags) (.nil)))))))))
def T211 : Ty := .cons (.str) (.cons (.nstr) (.cons (.str) (.cons (.str) (.cons (.bytes) (.cons (.bytes) (.cons (.tags) (.nil)))))))
def T : Ty := .cons (.int .i16) (.cons (.int .i32) (.cons (.arr (.cons (.int .i16) (.cons (.nstr) (.cons (.str) (.cons (.str) (.cons (.str) (.cons (.str) (.cons (.arr (.cons (.str) (.cons (.nstr) (.cons (.str) (.cons (.str) (.cons (.bytes) (.cons (.bytes) (.cons (.tags) (.nil))))))))) (.cons (.int .i32) (.cons (.tags) (.nil))))))))))) (.cons (.tags) (.nil))))
def sch : Sch := (.val (.ge 1) 1 .i32 (.arrS .all 2 none ((zeroV (.cons (.int .i16) (.cons (.nstr) (.cons (.str) (.cons (.str) (.cons (.str) (.cons (.str) (.cons (.arr (.cons (.str) (.cons (.nstr) (.cons (.str) (.cons (.str) (.cons (.bytes) (.cons (.bytes) (.cons (.tags) (.nil))))))))) (.cons (.int .i32) (.cons (.tags) (.nil))))))))))).puts [(7, .i (-2147483648))]) (.val .all 0 .i16 (.val (.ge 6) 1 .nstr (.val .all 2 .str (.val .all 3 .str (.val .all 4 .str (.val .all 5 .str (.arrS .all 6 none ((zeroV (.cons (.str) (.cons (.nstr) (.cons (.str) (.cons (.str) (.cons (.bytes) (.cons (.bytes) (.cons (.tags) (.nil))))))))).puts []) (.val .all 0 .str (.val (.ge 4) 1 .nstr (.val .all 2 .str (.val .all 3 .str (.val .all 4 .byt (.val .all 5 .byt (.tags 6 .nil))))))) (.val (.ge 3) 7 .i32 (.tags 8 .nil))))))))) (.tags 3 .nil)))
def ps : List (Nat × V) := []
def tabD : List (Nat × Rf) := [(158, .dflt T158 []), (210, .dflt T210 [(7, .i (-2147483648))]), (211, .dflt T211 [])]

theorem call158 : Callable Tryz.prog 158 := ⟨Tryz.f158, Tryz.func158, by kernel_rfl, by kernel_rfl⟩
theorem call210 : Callable Tryz.prog 210 := ⟨Tryz.f210, Tryz.func210, by kernel_rfl, by kernel_rfl⟩
theorem call211 : Callable Tryz.prog 211 := ⟨Tryz.f211, Tryz.func211, by kernel_rfl, by kernel_rfl⟩
theorem dfAll (eV : Value) : ∀ x ∈ tabD, Callable Tryz.prog x.1 ∧ RfOk Tryz.prog 0 eV x.1 x.2 := (all_cons ⟨call158, chkDf_ok Tryz.func158 (by kernel_rfl)⟩ (all_cons ⟨call210, chkDf_ok Tryz.func210 (by kernel_rfl)⟩ (all_cons ⟨call211, chkDf_ok Tryz.func211 (by kernel_rfl)⟩ all_nil)))
def tab : List (Nat × Rf) := tabD ++ Seat.tabR
theorem rd (eV : Value) : ∀ f a, rfAt tab f = some a → Callable Tryz.prog f ∧ RfOk Tryz.prog 0 eV f a := rfAt_all fun x hx => (List.mem_append.1 hx).elim (dfAll eV x) (Seat.rdAll eV x)
def F : AgF := ⟨102, 105, 106, 107⟩

theorem cal102 : Callable Tryz.prog 102 := ⟨Tryz.f102, Tryz.func102, by kernel_rfl, by kernel_rfl⟩
theorem cal105 : Callable Tryz.prog 105 := ⟨Tryz.f105, Tryz.func105, by kernel_rfl, by kernel_rfl⟩
theorem cal106 : Callable Tryz.prog 106 := ⟨Tryz.f106, Tryz.func106, by kernel_rfl, by kernel_rfl⟩
theorem cal107 : Callable Tryz.prog 107 := ⟨Tryz.f107, Tryz.func107, by kernel_rfl, by kernel_rfl⟩
theorem cal160 : Callable Tryz.prog 160 := ⟨Tryz.f160, Tryz.func160, by kernel_rfl, by kernel_rfl⟩
theorem cal103 : Callable Tryz.prog 103 := ⟨Tryz.f103, Tryz.func103, by kernel_rfl, by kernel_rfl⟩
theorem cal43 : Callable Tryz.prog 43 := ⟨Tryz.f43, Tryz.func43, by kernel_rfl, by kernel_rfl⟩
theorem cal45 : Callable Tryz.prog 45 := ⟨Tryz.f45, Tryz.func45, by kernel_rfl, by kernel_rfl⟩
theorem cal12 : Callable Tryz.prog 12 := ⟨Tryz.f12, Tryz.func12, by kernel_rfl, by kernel_rfl⟩
set_option maxHeartbeats 4000000 in
theorem msg (hsort : SortIs Tryz.prog 219 220 223 71) : Msg Tryz.prog 5 true 202 0 T sch (some 5) tab Snd.tab F 160 ps ps 6 where
  rdT := Seat.rdT
  rd := rd
  wr := TgW.sound1 hsort
  full := .inl rfl
  np := ⟨_, 184, Tryz.func102, by kernel_rfl, cal102⟩
  sv := ⟨_, Tryz.func105, by kernel_rfl, cal105⟩
  rfn := ⟨_, Tryz.func106, by kernel_rfl, cal106, cal160⟩
  read := ⟨_, Tryz.func160, fun eV fx h => by cases fx; kernel_rfl; kernel_rfl⟩
  at_ := ⟨_, Tryz.func107, by kernel_rfl, cal107⟩
  ok := okAll 6 (by decide +kernel)
  start := fun ver => by kernel_rfl
  ver := fun ver => by kernel_rfl
  key := by decide
  most := by decide

theorem maxIs : MaxIs Tryz.prog 43 6 := chkMax_is (gE := 0) (eV := .nilIface) (rd _) Tryz.func43 (show chkMax Tryz.prog _ 102 103 = true by kernel_rfl) cal43 Tryz.func102 (show chkNp Tryz.prog tab _ T = some (184, ps) by kernel_rfl) cal102 Tryz.func103 (by kernel_rfl) cal103 (by decide)

/-- What the message's fields are, as the reference says them. -/
noncomputable def M : Option (List Fld × Int) := (acall Tryz.prog 40 44 [] ⟨0, []⟩).bind (rdMsg 8)
theorem hM0 : M.isSome = true := by kernel_rfl
noncomputable def flds : List Fld := (M.get hM0).1
noncomputable def flex : Int := (M.get hM0).2
theorem hM : M = some (flds, flex) := (Option.some_get hM0).symm
theorem makes : MakesMsg Tryz.prog 44 8 flds flex := makes_msg (by kernel_rfl) hM
theorem specOk : specB (some 5) flex sch flds 6 = true := by kernel_rfl
theorem plainOk : plainB 8 flds = true := by kernel_rfl
theorem costOk : Nat.ble (costF 8 flds) 1000 = true := by kernel_rfl
theorem smallOk : smallB sch = true := by decide
theorem mixed : Tryz.prog.follows .mixedOrders = true := Sp.mixed

set_option maxHeartbeats 4000000 in
theorem law (hsort : SortIs Tryz.prog 219 220 223 71) {w : World} {n : Nat} {t : Tr} {cs : List Value} {k : Nat} {tE : TypeId} {vE : Value} (hn : n < 256) (hT : TrIs w w.heap.size t cs) (htw : t.tw ≤ 1048576) (hk : k < 65536) (herr : w.cell? ⟨0, 0, none⟩ = some (.iface tE vE)) (hgE : 0 < w.heap.size) :
    Calls Tryz.prog 12 #[.int .u8 (n : Int), .agg (Array.mk cs), .int .u16 (k : Int)] w fun en w' => en = .returned (.bool true) ∧ Ch (fun _ => False) w w' := by
  have hone := hT.one
  refine (Calls.of_CW (R := fun x w' => x = .bool true ∧ Ch (fun _ => False) w w') Tryz.func12 rfl (by decide +kernel) (Nat.le_of_ble_eq_true (by kernel_rfl)) (CW.of_flat ?_)).mono fun en w' ⟨x, he, hx, hR⟩ => ⟨by rw [he, hx], hR⟩
  simp only [flat, List.cons_append, List.nil_append, List.append_nil]
  refine CWL.reg (ops := [(.box 26 (.tmp 2), 0), (.assign (.const (Go.Value.bool false)), 4)]) (b := [(6, 3), (4, 1)]) (by kernel_rfl) ?_
  refine OpK.boxG (cs := cs) rfl fun w1 g hb1 hc1 hg1 hs1 => ?_
  refine OpK.assign ?_
  show CWL _ _ _ _ _ _
  have hT1 := hT.keep (w' := w1) fun k hk => hc1.block k hk fun h => h
  refine CWL.reg (ops := [(.load 26 (.tmp 8), 26), (.call ⟨.value (.func 13), #[.tmp 1], #[26]⟩, 4), (.unOp .not 4 (.tmp 3), 4)]) (b := [(15, 5), (14, 3), (13, 1)]) (by kernel_rfl) ?_
  refine OpK.loadA (n := 5) (by kernel_rfl) rfl hb1.ata hone.2 ?_
  refine OpK.asCall rfl Sp.call13 rfl ((Sp.fits2 w1 w.heap.size (by omega) t cs hT1).mono ?_)
  rintro en w2 ⟨x2, he2, ⟨b, rfl⟩, hc2⟩
  refine ⟨_, he2, ?_⟩
  refine OpK.not rfl ?_
  show CWL _ _ _ _ _ _
  have hc12 : Ch (fun _ => False) w w2 := hc1.trans' hc2
  cases b with
  | false =>
    refine CWL.condT rfl ?_
    simp only [flat, List.cons_append, List.nil_append, List.append_nil]
    refine CWL.reg (ops := [(.assign (.const (Go.Value.bool true)), 4)]) (b := [(6, 1)]) (by kernel_rfl) ?_
    refine OpK.assign ?_
    show CWL _ _ _ _ _ _
    refine CWL.ret ?_
    exact ⟨_, rfl, rfl, hc12⟩
  | true =>
  refine CWL.condF rfl ?_
  simp only [flat, List.cons_append, List.nil_append, List.append_nil]
  refine CWL.reg (ops := [(.call ⟨.value (.func 43), #[], #[]⟩, 3)]) (b := [(7, 1), (16, 1)]) (by kernel_rfl) ?_
  refine OpK.asCall rfl maxIs.1 rfl ((maxIs.2 w2).mono ?_)
  rintro en w3 ⟨he3, hc3⟩
  refine ⟨_, he3, ?_⟩
  show CWL _ _ _ _ _ _
  have hc13 : Ch (fun _ => False) w w3 := hc12.trans' hc3
  have hb3 : Blk w3 g 26 cs := (hb1.ch hc2).ch hc3
  refine CWL.reg (ops := [(.binOp .lss 3 (.tmp 14) (.const (Go.Value.int Go.IntKind.i64 0)) 3, 4)]) (b := [(18, 1), (17, 14)]) (by kernel_rfl) ?_
  refine OpK.cmp rfl rfl rfl ?_
  show CWL _ _ _ _ _ _
  refine CWL.condF rfl ?_
  simp only [flat, List.cons_append, List.nil_append, List.append_nil]
  generalize hver : ((n % (6 + 1) : Nat) : Int) = ver
  have hv0 : 0 ≤ ver := by omega
  have hvm : ver ≤ (6 : Nat) := by have := Nat.mod_lt n (show 0 < 6 + 1 by omega); omega
  obtain ⟨hfx, hmat⟩ := specB_at specOk hv0 hvm
  have hshort := part_short (ver := ver) (fx := flexB flex ver) costOk htw
  refine CWL.regD0 mixed [(1, true), (2, true), (4, true), (0, false), (3, false), (5, false), (6, true)] (by decide +kernel) ?_
  refine HW.early rfl rfl (Yi.move) ?_
  refine HW.early rfl rfl (Yi.move) ?_
  refine HW.early rfl rfl (Yi.loadA (n := 5) (by kernel_rfl) rfl (fun w' hw' => (hb3.ch hw').ata) hone.2) ?_
  refine HW.next rfl rfl ?_
  refine OpK.asCall rfl makes.1 rfl ((makes.2 _).mono ?_)
  rintro en w4 ⟨vF, he4, hF4, hc4⟩
  have hc34 : Ch (fun _ => False) w3 w4 := (Ch.drew _ _).trans' hc4
  refine ⟨_, he4, hc34, ?_⟩
  refine HW.next rfl rfl ?_
  refine OpK.asCall rfl Seat.verIs.1 rfl ((Seat.verIs.2 w4 n 6 hn (by decide)).mono ?_)
  rintro en w5 ⟨v5, he5, hv5, rfl⟩
  rw [hver] at hv5
  subst hv5
  refine ⟨_, he5, hc34, ?_⟩
  have hc14 : Ch (fun _ => False) w w5 := hc13.trans' hc34
  have hT4 := (hT.keep (w' := w5) fun k hk => hc14.block k hk fun h => h).up hc14.size
  refine HW.next rfl rfl ?_
  refine OpK.asCall rfl Sp.call15 rfl ((Sp.write w5 w5.heap.size 8 8 (Nat.le_refl _) ver flex flds vF hF4 plainOk t cs hT4 (by simp only [Lim]; omega)).mono ?_)
  rintro en w6 ⟨d6, he6, hg6⟩
  rw [hfx] at hg6
  refine ⟨_, he6, hc34.trans' hg6.new_ch, ?_⟩
  have hc16 : Ch (fun _ => False) w w6 := hc14.trans' hg6.new_ch
  refine HW.early rfl rfl (Yi.assign) ?_
  refine HW.done ?_
  show CWL _ _ _ _ _ _
  rw [hfx] at hshort
  generalize hbd : partF ver (flexAt (some 5) ver) 8 flds t = bs at hg6 hshort
  have hpl := again_plain (t := t) (d := 7) (v0 := V0 T ps ps ver) hmat ((msg hsort).ok ver hv0 hvm) smallOk plainOk ((msg hsort).start ver)
  rw [hbd] at hpl
  have hsrc6 := own_oct hg6.own
  refine CWL.reg (ops := [(.call ⟨.value (.func 17), #[.tmp 0, .tmp 14], #[5, 3]⟩, 3), (.call ⟨.value (.func 45), #[.tmp 1, .tmp 16], #[3, 22]⟩, 36), (.extract (.tmp 3) 0, 22), (.extract (.tmp 3) 1, 4)]) (b := [(10, 7), (9, 5), (32, 7), (31, 5), (25, 3), (30, 3), (29, 16), (28, 1), (27, 14), (26, 0)]) (by kernel_rfl) ?_
  refine OpK.asCall rfl Seat.verIs.1 rfl ((Seat.verIs.2 w6 n 6 hn (by decide)).mono ?_)
  rintro en w7 ⟨v7, he7, hv7, rfl⟩
  rw [hver] at hv7
  subst hv7
  refine ⟨_, he7, ?_⟩
  refine OpK.asCall rfl cal45 rfl ((chkAg_calls (msg hsort) Tryz.func45 (by kernel_rfl) hv0 hvm hsrc6 (fun k hk => hg6.own.lt hk) hshort ((ch_cell hc16 (a := ⟨0, 0, none⟩) hgE (fun h => h) rfl).trans herr) (Nat.lt_of_lt_of_le hgE hc16.size)).mono ?_)
  rintro en w8 ⟨x8, b8, he8, hc8, hag⟩
  rw [hpl] at hag
  obtain ⟨rfl, hoct⟩ := hag
  refine ⟨_, he8, ?_⟩
  refine OpK.extract (vs := #[x8, .bool true]) (v := x8) rfl rfl ?_
  refine OpK.extract (vs := #[x8, .bool true]) (v := .bool true) rfl rfl ?_
  show CWL _ _ _ _ _ _
  have hc18 : Ch (fun _ => False) w w8 := hc16.trans' hc8
  obtain ⟨a6, c6, rfl, hn6, ho6⟩ := hg6.own.slice
  refine CWL.reg (ops := [(.call ⟨.builtin .len, #[.tmp 16], #[22]⟩, 3), (.binOp .eql 3 (.tmp 1) (.const (Go.Value.int Go.IntKind.i64 0)) 3, 4)]) (b := [(35, 3), (34, 1), (33, 16)]) (by kernel_rfl) ?_
  refine OpK.len (e := 5) (by kernel_rfl) rfl ?_
  refine OpK.cmp rfl rfl rfl ?_
  show CWL _ _ _ _ _ _
  by_cases hz : bs.length = 0
  · refine CWL.condT (congrArg Value.bool (by simp [hz])) ?_
    simp only [flat, List.cons_append, List.nil_append, List.append_nil]
    refine CWL.reg (ops := []) (b := [(6, 20), (36, 20)]) (by kernel_rfl) ?_
    show CWL _ _ _ _ _ _
    refine CWL.ret ?_
    exact ⟨_, rfl, rfl, hc18⟩
  refine CWL.condF (congrArg Value.bool (by simpa using hz)) ?_
  simp only [flat, List.cons_append, List.nil_append, List.append_nil]
  have hpos : 0 < bs.length := by omega
  cases a6 with
  | none => rw [hn6 rfl] at hpos; exact absurd hpos (by simp)
  | some a6 =>
  have hlt : k % bs.length < bs.length := Nat.mod_lt _ hpos
  have hcut := cut_plain (t := t) (d := 7) (v0 := V0 T ps ps ver) (k := k % bs.length) hmat ((msg hsort).ok ver hv0 hvm) smallOk plainOk ((msg hsort).start ver) (by rw [hbd]; exact hlt)
  rw [hbd] at hcut
  have hkl : ∀ k', (Value.slice (some a6) bs.length c6).ownBlock = some k' → k' < w8.heap.size := fun k' hk' => Nat.lt_of_lt_of_le (hg6.own.lt hk') hc8.size
  obtain ⟨hcap, hcs⟩ := oct_cut (hsrc6.keep (w' := w8) fun k' hk' => hc8.block k' (hg6.own.lt hk') fun h => h) (j := k % bs.length) (by omega)
  refine CWL.regD0 mixed [(0, true), (1, true), (3, true), (4, true), (5, true), (6, true), (7, true), (8, true), (9, true), (2, false), (10, false), (11, true), (12, true), (13, true), (14, true), (15, true)] (by decide +kernel) ?_
  refine HW.early rfl rfl (Yi.move) ?_
  refine HW.early rfl rfl (Yi.move) ?_
  refine HW.early rfl rfl (Yi.move) ?_
  refine HW.early rfl rfl (Yi.move) ?_
  refine HW.early rfl rfl (Yi.convInt (k' := .i64) (by kernel_rfl) (by kernel_rfl) rfl) ?_
  refine HW.early rfl rfl (Yi.move) ?_
  refine HW.early rfl rfl (Yi.len (e := 5) (by kernel_rfl) rfl) ?_
  refine HW.early rfl rfl (Yi.rem (a := (k : Int)) (b := (bs.length : Int)) (by omega) (by omega) (congrArg (Value.int .i64) (i64_nat k (by omega))) rfl) ?_
  refine HW.early rfl rfl (yi_of_OpK rfl fun w _ => OpK.sliceTo (e := 5) (s := 1) (j := k % bs.length) (by kernel_rfl) (by kernel_rfl) rfl (congrArg (Value.int .i64) (Int.natCast_emod k bs.length).symm) (by omega) ⟨rfl, rfl⟩) ?_
  refine HW.next rfl rfl ?_
  refine OpK.asCall rfl Seat.verIs.1 rfl ((Seat.verIs.2 _ n 6 hn (by decide)).mono ?_)
  rintro en w9 ⟨v9, he9, hv9, rfl⟩
  rw [hver] at hv9
  subst hv9
  refine ⟨_, he9, Ch.drew _ _, ?_⟩
  refine HW.next rfl rfl ?_
  refine OpK.asCall rfl cal45 rfl ((chkAg_calls (msg hsort) Tryz.func45 (by kernel_rfl) hv0 hvm (hcs.keep (w' := w8.drew) fun _ _ => rfl) (fun k' hk' => hkl k' hk') (by rw [List.length_take]; omega) ((ch_cell (hc18.trans' (Ch.drew _ _)) (a := ⟨0, 0, none⟩) hgE (fun h => h) rfl).trans herr) (Nat.lt_of_lt_of_le hgE (hc18.trans' (Ch.drew _ _)).size)).mono ?_)
  rintro en w10 ⟨x10, b10, he10, hc10, hag10⟩
  rw [hcut] at hag10
  obtain ⟨rfl, rfl⟩ := hag10
  refine ⟨_, he10, (Ch.drew _ _).trans' hc10, ?_⟩
  refine HW.early rfl rfl (Yi.move) ?_
  refine HW.early rfl rfl (yi_of_OpK rfl fun w _ => OpK.extract (vs := #[.slice none 0 0, .bool false]) (v := .slice none 0 0) rfl rfl ⟨rfl, rfl⟩) ?_
  refine HW.early rfl rfl (yi_of_OpK rfl fun w _ => OpK.extract (vs := #[.slice none 0 0, .bool false]) (v := .bool false) rfl rfl ⟨rfl, rfl⟩) ?_
  refine HW.early rfl rfl (Yi.assign) ?_
  refine HW.early rfl rfl (Yi.assign) ?_
  refine HW.done ?_
  refine CWL.cons (CW.region ?_)
  refine RW.want rfl ?_
  refine OpK.move ?_
  refine RW.want rfl ?_
  refine OpK.move ?_
  refine RW.want rfl ?_
  refine OpK.move ?_
  refine RW.want rfl ?_
  refine OpK.not rfl ?_
  refine RW.want rfl ?_
  refine OpK.pick rfl ?_
  refine RW.want rfl ?_
  refine OpK.assign ?_
  refine RW.z ?_
  show CWL _ _ _ _ _ _
  refine CWL.ret ?_
  exact ⟨_, rfl, rfl, (hc18.trans' (Ch.drew _ _)).trans' hc10⟩

end Go.Proofs.YtngckfpilgjcfaaGreatDoor.DescribeGroupsResponse
