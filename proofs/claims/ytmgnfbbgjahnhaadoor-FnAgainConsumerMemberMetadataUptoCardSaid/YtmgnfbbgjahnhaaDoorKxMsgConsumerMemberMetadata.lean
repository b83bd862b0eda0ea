/- ConsumerMemberMetadata. -/
import Derived.Test.YtmgnfbbgjahnhaaDoorKxKept
import Derived.Test.YtmgnfbbgjahnhaaDoorKxEach
import Derived.Test.YtmgnfbbgjahnhaaDoorKxSeat
import Derived.Test.YtmgnfbbgjahnhaaDoorKxRdr
import Derived.Test.YtmgnfbbgjahnhaaDoorKxSnd
import Derived.Test.YtmgnfbbgjahnhaaDoorKxSpecZ
import Derived.Test.YtmgnfbbgjahnhaaDoorKxAgn
namespace Go.Proofs.YtmgnfbbgjahnhaaDoor.ConsumerMemberMetadata
open Go.Kx Go.RowKit Go.Proofs
set_option maxRecDepth 100000
set_option linter.unusedVariables false
set_option linter.unusedSimpArgs false

def T62 : Ty := .cons (.int .i16) (.cons (.arr (.str)) (.cons (.bytes) (.cons (.arr (.cons (.str) (.cons (.arr (.int .i32)) (.nil)))) (.cons (.int .i32) (.cons (.nstr) (.nil))))))
def T83 : Ty := .cons (.str) (.cons (.arr (.int .i32)) (.nil))
def T : Ty := .cons (.int .i16) (.cons (.arr (.str)) (.cons (.bytes) (.cons (.arr (.cons (.str) (.cons (.arr (.int .i32)) (.nil)))) (.cons (.int .i32) (.cons (.nstr) (.nil))))))
def sch : Sch := (.arrV .all 1 none .str (.val .all 2 .nbyt (.arrS (.ge 1) 3 none ((zeroV (.cons (.str) (.cons (.arr (.int .i32)) (.nil)))).puts []) (.val .all 0 .str (.arrV .all 1 none .i32 .nil)) (.val (.ge 2) 4 .i32 (.val (.ge 3) 5 .nstr .nil)))))
def schK : Sch := .val .all 0 .i16 sch
def ps : List (Nat × V) := [(4, .i (-1))]
def tabD : List (Nat × Rf) := [(62, .dflt T62 [(4, .i (-1))]), (83, .dflt T83 [])]

theorem call62 : Callable Tryd.prog 62 := ⟨Tryd.f62, Tryd.func62, by kernel_rfl, by kernel_rfl⟩
theorem call83 : Callable Tryd.prog 83 := ⟨Tryd.f83, Tryd.func83, by kernel_rfl, by kernel_rfl⟩
theorem cal66 : Callable Tryd.prog 66 := ⟨Tryd.f66, Tryd.func66, by kernel_rfl, by kernel_rfl⟩
theorem dfAll (eV : Value) : ∀ x ∈ tabD, Callable Tryd.prog x.1 ∧ RfOk Tryd.prog 1 eV x.1 x.2 := (all_cons ⟨call62, chkDf_ok Tryd.func62 (by kernel_rfl)⟩ (all_cons ⟨call83, chkDf_ok Tryd.func83 (by kernel_rfl)⟩ all_nil))
def tab : List (Nat × Rf) := tabD ++ Seat.tabR
theorem rd (eV : Value) : ∀ f a, rfAt tab f = some a → Callable Tryd.prog f ∧ RfOk Tryd.prog 1 eV f a := rfAt_all fun x hx => (List.mem_append.1 hx).elim (dfAll eV x) (Seat.rdAll eV x)

theorem callK : Callable Tryd.prog 8 := ⟨Tryd.f8, Tryd.func8, by kernel_rfl, by kernel_rfl⟩
theorem mixed : Tryd.prog.follows .mixedOrders = true := Sp.mixed
set_option maxHeartbeats 4000000 in
theorem kept (w : World) (B dd d : Nat) (hB : B ≤ w.heap.size) (ver flex : Int) (flds : List Fld) (vF : Value) (hF : FldsIs w B dd flds vF) (hpl : plainB d flds = true) (t : Tr) (cs : List Value) (hT : TrIs w B t cs) (hl : 2 + (partF ver (flexB flex ver) d flds t).length ≤ Lim) :
    Calls Tryd.prog 8 #[.agg #[vF, .int .i64 flex], .int .i64 ver, .agg cs.toArray] w fun en w' => ∃ x, en = .returned x ∧ Grew 5 w (.slice none 0 0) w' x (be 2 ver ++ partF ver (flexB flex ver) d flds t) := by
  have hone := hT.one
  refine Calls.of_CW Tryd.func8 rfl (by decide +kernel) (Nat.le_of_ble_eq_true (by kernel_rfl)) (CW.of_flat ?_)
  simp only [flat, List.cons_append, List.nil_append, List.append_nil]
  refine CWL.reg (ops := [(.box 32 (.tmp 0), 0), (.box 26 (.tmp 4), 0), (.assign (.const (Go.Value.slice none 0 0)), 22)]) (b := [(6, 5), (5, 3), (3, 1)]) (by kernel_rfl) ?_
  refine OpK.boxG (cs := [vF, .int .i64 flex]) rfl fun w1 g hb1 hc1 hg1 hs1 => ?_
  refine OpK.boxG (cs := cs) rfl fun w2 gt hbt2 hc2 hg2 hs2 => ?_
  refine OpK.assign ?_
  show CWL _ _ _ _ _ _
  have hb2 := hb1.ch hc2
  have hcw2 : Ch (fun _ => False) w w2 := hc1.trans' hc2
  refine CWL.regD0 mixed [(0, true), (2, true), (3, true), (4, true), (1, false), (5, false), (6, false), (7, true)] (by decide +kernel) ?_
  refine HW.early rfl rfl (Yi.move) ?_
  refine HW.early rfl rfl (Yi.loadA (n := 2) (by kernel_rfl) rfl (fun w' hw' => (hb2.ch hw').ata) rfl) ?_
  refine HW.early rfl rfl (Yi.move) ?_
  refine HW.early rfl rfl (Yi.loadA (n := 5) (by kernel_rfl) rfl (fun w' hw' => (hbt2.ch hw').ata) hone.2) ?_
  refine HW.next rfl rfl ?_
  refine OpK.asCall rfl Sp.call22 rfl ((Sp.fixed _ ver 2 (by decide)).mono ?_)
  rintro en w3 ⟨d3, he3, hg3⟩
  have hg3' : Grew 5 w2 (.slice none 0 0) w3 d3 (be 2 ver) := Grew.pre (Ch.drew _ _) hg3
  refine ⟨_, he3, hg3'.new_ch, ?_⟩
  have hcw3 : Ch (fun _ => False) w w3 := hcw2.trans' hg3'.new_ch
  have hk3 : ∀ k, k < B → w3.heap[k]? = w.heap[k]? := fun k hk => hcw3.block k (by omega) fun h => h
  refine HW.next rfl rfl ?_
  refine OpK.asCall rfl Sp.call16 rfl ((Sp.write w3 B dd d (by have := hcw3.size; omega) ver flex flds vF (hF.keep hk3) hpl t cs (hT.keep hk3) (by omega)).mono ?_)
  rintro en w4 ⟨d4, he4, hg4⟩
  refine ⟨_, he4, hg3'.new_ch.trans' hg4.new_ch, ?_⟩
  have hg34 := hg3'.later hg4.new_ch
  obtain ⟨a4, c4, rfl, hn4, ho4⟩ := hg4.own.slice
  obtain ⟨d5, w5, hr5, hg5⟩ := run_append_oct (P := Tryd.prog) (ty := 22) (t := 22) Sp.u8 Sp.und hg34.own (a := a4) (l := partF ver (flexB flex ver) d flds t) (c := c4) hn4 (fun a' e => (ho4 a' e).1) (by rw [be_length]; exact hl)
  have hg25 := hg34.more hg5
  refine HW.next rfl rfl ?_
  refine OpK.run rfl hr5 ?_
  refine ⟨hg25.new_ch, ?_⟩
  refine HW.early rfl rfl (Yi.assign) ?_
  refine HW.done ?_
  show CWL _ _ _ _ _ _
  refine CWL.ret ?_
  exact ⟨_, rfl, Grew.pre hcw2 hg25⟩

/-! ### A new one -/
theorem zeroOk : ((Tryd.prog.info? 67).bind (·.zero)).map (·.cells) = some (zeroC T).toArray := by kernel_rfl
theorem sizeOk : (Tryd.prog.info? 67).map (·.size) = some T.size := by kernel_rfl
theorem aggOk : aggSize Tryd.prog 67 = some T.size := by kernel_rfl
theorem wfOk : wfT T = true := by decide
theorem one_rep {w : World} {S : Nat → Prop} {v : V} {cells : List Value} (h : Rep w S T v cells) : ∀ u ∈ cells, u.oneCell' = true := rep_one h
theorem calN : Callable Tryd.prog 39 := ⟨Tryd.f39, Tryd.func39, by kernel_rfl, by kernel_rfl⟩
set_option maxHeartbeats 4000000 in
theorem newIs (w : World) : Calls Tryd.prog 39 #[] w fun en w' => ∃ v, en = .returned v ∧ ∃ cells, v = .agg cells.toArray ∧ cells.length = T.size ∧ Rep w' (fun _ => False) T ((zeroV T).puts ps) cells ∧ Ch (fun _ => False) w w' := by
  refine Calls.of_CW_cell (t := 0) (ty := 67) Tryd.func39 rfl (by decide +kernel) (Nat.le_of_ble_eq_true (by kernel_rfl)) rfl (CW.of_flat ?_)
  simp only [flat, List.cons_append, List.nil_append, List.append_nil]
  refine CWL.reg (ops := [(.alloc 67, 0)]) (b := [(0, 1)]) (by kernel_rfl) ?_
  refine OpK.allocZ (zeroC T) zeroOk fun w1 r hr1 hc1 hr hs1 => ?_
  show CWL _ _ _ _ _ _
  refine CWL.reg (ops := [(.alloc 67, 0)]) (b := [(1, 1)]) (by kernel_rfl) ?_
  refine OpK.allocZ (zeroC T) zeroOk fun w2 g hb2 hc2 hg hs2 => ?_
  show CWL _ _ _ _ _ _
  have hr2 := hr1.ch hc2
  have hz := rep_zero w2 (fun _ => False) T wfOk
  have hzl := zeroC_len T
  refine CWL.reg (ops := [(.call ⟨.value (.func 62), #[.tmp 2], #[67]⟩, 0)]) (b := [(2, 1)]) (by kernel_rfl) ?_
  refine OpK.asCall rfl call62 rfl ((chkDf_ok (P := Tryd.prog) (gE := 0) (eV := .nilIface) (T := T) (ps := ps) Tryd.func62 (by kernel_rfl) w2 (fun _ => False) g 0 _ (zeroC T) (zeroV T) hb2 (by rw [List.drop_zero, List.take_of_length_le (by omega)]; exact hz) (by omega) (fun h => h)).mono ?_)
  rintro en w3 ⟨he3, c3, hb3, hr3, hc3⟩
  refine ⟨_, he3, ?_⟩
  show CWL _ _ _ _ _ _
  have hl3 := hr3.size
  rw [splice_all (by omega)] at hb3
  have hrb3 : Blk w3 r 67 (zeroC T) := hr2.keep (hc3.block r hr2.lt (by omega))
  have hc13 : Ch (fun _ => False) w w3 := (hc1.trans' hc2).trans hc3 fun k hk e => by have := hc1.size; omega
  refine CWL.reg (ops := [(.load 67 (.tmp 2), 67), (.store 67 (.tmp 0) (.tmp 1), 0)]) (b := [(3, 1)]) (by kernel_rfl) ?_
  refine OpK.loadA (n := T.size) aggOk rfl hb3.ata hl3 ?_
  refine OpK.storeG (cs := zeroC T) (us := c3) (by rw [hl3]; exact sizeOk) rfl rfl (one_rep hr3) hrb3 (by omega) fun w4 hr4 hc4 hs4 => ?_
  show CWL _ _ _ _ _ _
  refine CWL.ret ?_
  refine ⟨_, _, rfl, run_loadBlk aggOk hr4 hl3, c3, rfl, hl3, hr3.keepMono (fun _ h => h.elim) (fun _ h => h.elim), hc13.trans hc4 fun k hk e => by omega⟩

/-! ### Read and written again -/
def V0 : V := ((zeroV T).puts ps).puts ps
theorem ifaceErr : isIface Tryd.prog 52 = true := by kernel_rfl
theorem i16Is : I16Is Tryd.prog 66 := fun w S g t s hS h => (Rd.r66 w S hS g t s h).mono fun en w' ⟨v, he, hv, h1, hc, _⟩ => ⟨v, he, hv, h1, hc⟩
theorem readOk (eV : Value) : chkRdK Tryd.prog tab 1 eV 107 66 Tryd.f63 T sch = some ps := by kernel_rfl
theorem atOk : chkApp Tryd.prog Snd.tab 5 Tryd.f41 T schK none = true := by kernel_rfl
theorem calRF : Callable Tryd.prog 40 := ⟨Tryd.f40, Tryd.func40, by kernel_rfl, by kernel_rfl⟩
theorem calrf : Callable Tryd.prog 63 := ⟨Tryd.f63, Tryd.func63, by kernel_rfl, by kernel_rfl⟩
theorem calAT : Callable Tryd.prog 41 := ⟨Tryd.f41, Tryd.func41, by kernel_rfl, by kernel_rfl⟩
theorem calAg : Callable Tryd.prog 20 := ⟨Tryd.f20, Tryd.func20, by kernel_rfl, by kernel_rfl⟩
theorem noTag (v : V) : noTags schK v := by unfold schK sch; simp [noTags]
set_option maxHeartbeats 4000000 in
theorem ag {w : World} {S : Nat → Prop} {src : Value} {l : List UInt8} {tE : TypeId} {vE : Value} {ver : Int} (hsrc : OctIs w S l src) (hS : ∀ k, S k → k < w.heap.size) (hl : l.length < 1073741824) (herr : w.cell? ⟨1, 0, none⟩ = some (.iface tE vE)) (hgE : 1 < w.heap.size)
    (hrv : (rdInt .i16 2 ⟨l, false⟩).1 = ver) (hv0 : 0 ≤ ver) (hok : okB ver false sch = true) (hlen : ∀ y, readK ver sch V0 l = some y → (enc ver false schK y.1).length ≤ Lim ∧ y.1.fld 0 = .i ver) :
    Calls Tryd.prog 20 #[src] w fun en w' => ∃ x b, en = .returned (.tuple #[x, .bool b]) ∧ Ch (fun _ => False) w w' ∧ AgIs w w' ((readK ver sch V0 l).map fun y => enc ver false schK y.1) x b := by
  obtain ⟨ms, hms⟩ := isIface_spec ifaceErr
  refine (Calls.of_CW (R := fun y w' => ∃ x b, y = .tuple #[x, .bool b] ∧ Ch (fun _ => False) w w' ∧ AgIs w w' ((readK ver sch V0 l).map fun y => enc ver false schK y.1) x b) Tryd.func20 rfl (by decide +kernel) (Nat.le_of_ble_eq_true (by kernel_rfl)) (CW.of_flat ?_)).mono fun en w' ⟨y, he, x, b, hy, hR⟩ => ⟨x, b, by rw [he, hy], hR⟩
  simp only [flat, List.cons_append, List.nil_append, List.append_nil]
  refine CWL.reg (ops := [(.assign (.const (Go.Value.slice none 0 0)), 22), (.assign (.const (Go.Value.bool false)), 4)]) (b := [(3, 3), (2, 1)]) (by kernel_rfl) ?_
  refine OpK.assign ?_
  refine OpK.assign ?_
  show CWL _ _ _ _ _ _
  refine CWL.reg (ops := [(.call ⟨.value (.func 39), #[], #[]⟩, 67), (.alloc 67, 0), (.store 67 (.tmp 3) (.tmp 1), 0)]) (b := [(4, 3), (5, 1)]) (by kernel_rfl) ?_
  refine OpK.asCall rfl calN rfl ((newIs w).mono ?_)
  rintro en w1 ⟨_, he1, cells, rfl, hcl, hrep1, hc1⟩
  refine ⟨_, he1, ?_⟩
  refine OpK.allocZ (zeroC T) zeroOk fun w2 g hb2 hc2 hg hs2 => ?_
  refine OpK.storeG (cs := zeroC T) (us := cells) (by rw [hcl]; exact sizeOk) rfl rfl (one_rep hrep1) hb2 (by rw [hcl]; exact zeroC_len T) fun w3 hb3 hc3 hs3 => ?_
  show CWL _ _ _ _ _ _
  have hc13 : Ch (fun _ => False) w w3 := (hc1.trans' hc2).trans hc3 fun k hk e => by have := hc1.size; omega
  have hg3 : w.heap.size ≤ g := by have := hc1.size; omega
  have hsrc3 : OctIs w3 S l src := hsrc.keep fun k hk => hc13.block k (hS k hk) fun h => h
  obtain ⟨a, cc, hsl, hnil, hO⟩ : ∃ a c, src = .slice a l.length c ∧ (a = none → l = []) ∧ ∀ a', a = some a' → Oct w3 a' l := by
    rcases hsrc3 with ⟨h1, h2⟩ | ⟨a, c, h1, h2, h3, h4⟩
    · exact ⟨none, 0, by rw [h1, h2]; rfl, fun _ => h2, fun _ h => by cases h⟩
    · exact ⟨some a, c, h1, (fun h => by cases h), fun a' h => by cases h; exact h4⟩
  subst hsl
  obtain ⟨d, w4, hr4, hg4⟩ := run_append_oct (P := Tryd.prog) (ty := 22) (t := 22) Sp.u8 Sp.und (Own.nil 5 w3) (a := a) (l := l) (c := cc) hnil hO (by simp only [List.length_nil, Lim]; omega)
  rw [List.nil_append] at hg4
  have hch4 : Ch (fun _ => False) w3 w4 := hg4.new_ch
  have hc14 : Ch (fun _ => False) w w4 := hc13.trans' hch4
  have hgl3 := hb3.lt
  have hb4 := hb3.keep (hch4.block _ hgl3 fun h => h)
  have hdnew : ∀ k, d.ownBlock = some k → w3.heap.size ≤ k ∧ k < w4.heap.size := fun k hk => ⟨hg4.new_lo hk, hg4.own.lt hk⟩
  have hrep4 : Rep w4 (fun k => k < w4.heap.size ∧ k ≠ g) T ((zeroV T).puts ps) ((cells.drop 0).take T.size) := by
    rw [List.drop_zero, List.take_of_length_le (by omega)]
    exact hrep1.keepMono (fun _ h => h.elim) fun _ h => h.elim
  have herr4 : w4.cell? ⟨1, 0, none⟩ = some (.iface tE vE) := (ch_cell hc14 (a := ⟨1, 0, none⟩) hgE (fun h => h) rfl).trans herr
  have hsz4 := hc14.size
  have hread := chkRdK_calls Seat.rdT cal66 i16Is (rd (.iface tE vE)) Tryd.func63 (readOk (.iface tE vE)) (S := fun k => d.ownBlock = some k) (v0 := (zeroV T).puts ps) (ver := ver) (o := 0) hb4 hrep4 (by omega) herr4 ⟨by omega, by omega⟩
    (own_src hg4.own (by omega)) (fun k hk => ⟨(hdnew k hk).2, by have := (hdnew k hk).1; omega⟩) hrv (by kernel_rfl) hv0 hok (by kernel_rfl)
  refine CWL.reg (ops := [(.call ⟨.builtin .append, #[.const (Go.Value.slice none 0 0), .tmp 0], #[22, 22]⟩, 22), (.call ⟨.value (.func 40), #[.tmp 8, .tmp 1], #[67, 22]⟩, 52), (.binOp .neq 52 (.tmp 3) (.const (Go.Value.nilIface)) 52, 4)]) (b := [(9, 5), (8, 3), (7, 1), (6, 0)]) (by kernel_rfl) ?_
  refine OpK.run rfl hr4 ?_
  refine OpK.asCall rfl calRF rfl ((chkRF_calls Tryd.func40 (by kernel_rfl) calrf hread).mono ?_)
  rintro en w5 ⟨x5, he5, hc5, hto⟩
  refine ⟨_, he5, ?_⟩
  change (match readK ver sch V0 l with | some y => _ | none => _) at hto
  have hnil5 : (x5 = .nilIface ∧ (readK ver sch V0 l).isNone = false) ∨ (∃ t y, x5 = .iface t y) ∧ (readK ver sch V0 l).isNone = true := by
    cases hd : readK ver sch V0 l with
    | none => rw [hd] at hto; exact .inr ⟨⟨tE, vE, hto⟩, rfl⟩
    | some y => rw [hd] at hto; exact .inl ⟨hto.1, rfl⟩
  refine OpK.cmpNil hms rfl rfl hnil5 ?_
  show CWL _ _ _ _ _ _
  have hc15 : Ch (fun _ => False) w w5 := hc14.trans hc5 fun i hi e => by omega
  cases hd : readK ver sch V0 l with
  | none =>
    refine CWL.condT (congrArg Value.bool (by first | rfl | (rw [hd]; rfl))) ?_
    simp only [flat, List.cons_append, List.nil_append, List.append_nil]
    refine CWL.reg (ops := [(.assign (.const (Go.Value.slice none 0 0)), 22), (.assign (.const (Go.Value.bool false)), 4)]) (b := [(3, 3), (2, 1)]) (by kernel_rfl) ?_
    refine OpK.assign ?_
    refine OpK.assign ?_
    show CWL _ _ _ _ _ _
    refine CWL.ret ?_
    exact ⟨_, rfl, .slice none 0 0, false, rfl, hc15, rfl, rfl⟩
  | some y =>
    refine CWL.condF (congrArg Value.bool (by first | rfl | (rw [hd]; rfl))) ?_
    simp only [flat, List.cons_append, List.nil_append, List.append_nil]
    try rw [hd] at hto
    obtain ⟨hx, cells5, hb5, hl5, hrep5⟩ := hto
    obtain ⟨hle, hver⟩ := hlen y hd
    have his : Is w5 (fun k => k < w5.heap.size) g 0 T y.1 := by
      refine ⟨_, hrep5.mono fun k hk => hk.1, fun i u hu => ?_⟩
      rw [List.getElem?_take] at hu
      split at hu
      · rw [List.getElem?_drop] at hu
        rw [hb5.cell]
        exact hu
      · cases hu
    have hcall := chkApp_calls Snd.sound0 Tryd.func41 atOk (w := w5) (S := fun k => k < w5.heap.size) (g := g) (o := 0) (v := y.1) (ver := ver) (d := .slice none 0 0) (bs := []) (.inr (noTag y.1)) his hb5.lt hver (Own.nil _ w5) (fun k hk => ⟨hk, by simp [Value.ownBlock]⟩) (by rw [List.length_nil, Nat.zero_add]; exact hle)
    rw [List.nil_append] at hcall
    refine CWL.reg (ops := [(.call ⟨.value (.func 41), #[.tmp 8, .const (Go.Value.slice none 0 0)], #[67, 22]⟩, 22), (.assign (.const (Go.Value.bool true)), 4)]) (b := [(3, 3), (2, 1), (10, 1)]) (by kernel_rfl) ?_
    refine OpK.asCall rfl calAT rfl (hcall.mono ?_)
    rintro en w6 ⟨d6, he6, hg6⟩
    refine ⟨_, he6, ?_⟩
    refine OpK.assign ?_
    show CWL _ _ _ _ _ _
    refine CWL.ret ?_
    have hc56 : Ch (fun _ => False) w5 w6 := hg6.new_ch
    refine ⟨_, rfl, d6, true, rfl, hc15.trans' hc56, rfl, ?_⟩
    rcases own_oct hg6.own with h | ⟨a, c, h1, h2, h3, h4⟩
    · exact .inl h
    · exact .inr ⟨a, c, h1, h2, ⟨Nat.le_trans hc15.size (hg6.new_lo h3), hg6.own.lt h3⟩, h4⟩

/-! ### The law -/
noncomputable def M : Option (List Fld × Int) := (acall Tryd.prog 40 19 [] ⟨0, []⟩).bind (rdMsg 8)
theorem hM0 : M.isSome = true := by kernel_rfl
noncomputable def flds : List Fld := (M.get hM0).1
noncomputable def flex : Int := (M.get hM0).2
theorem hM : M = some (flds, flex) := (Option.some_get hM0).symm
theorem makes : MakesMsg Tryd.prog 19 8 flds flex := makes_msg (by kernel_rfl) hM
theorem specOk : specB none flex sch flds 3 = true := by kernel_rfl
theorem plainOk : plainB 8 flds = true := by kernel_rfl
theorem costOk : Nat.ble (costF 8 flds) 1000 = true := by kernel_rfl
theorem smallOk : smallB sch = true := by decide
theorem keyOk : sch.keys.contains 0 = false := by decide
theorem okAt : ∀ ver, 0 ≤ ver → ver ≤ 3 → okB ver false sch = true := okAll (ff := none) 3 (by decide +kernel)
theorem startAt (ver : Int) : startB sch (V0.put 0 (.i ver)) = true := by kernel_rfl
theorem verAt (ver : Int) : (V0.put 0 (.i ver)).fld 0 = .i ver := by kernel_rfl
set_option maxHeartbeats 4000000 in
theorem law {w : World} {n : Nat} {t : Tr} {cs : List Value} {tE : TypeId} {vE : Value} (hn : n < 256) (hT : TrIs w w.heap.size t cs) (htw : t.tw ≤ 1048576) (herr : w.cell? ⟨1, 0, none⟩ = some (.iface tE vE)) (hgE : 1 < w.heap.size) :
    Calls Tryd.prog 6 #[.int .u8 (n : Int), .agg (Array.mk cs)] w fun en w' => en = .returned (.bool true) ∧ Ch (fun _ => False) w w' := by
  have hone := hT.one
  refine (Calls.of_CW (R := fun x w' => x = .bool true ∧ Ch (fun _ => False) w w') Tryd.func6 rfl (by decide +kernel) (Nat.le_of_ble_eq_true (by kernel_rfl)) (CW.of_flat ?_)).mono fun en w' ⟨x, he, hx, hR⟩ => ⟨by rw [he, hx], hR⟩
  simp only [flat, List.cons_append, List.nil_append, List.append_nil]
  refine CWL.reg (ops := [(.box 26 (.tmp 2), 0), (.assign (.const (Go.Value.bool false)), 4)]) (b := [(4, 3), (3, 1)]) (by kernel_rfl) ?_
  refine OpK.boxG (cs := cs) rfl fun w1 g hb1 hc1 hg1 hs1 => ?_
  refine OpK.assign ?_
  show CWL _ _ _ _ _ _
  have hT1 := hT.keep (w' := w1) fun k hk => hc1.block k hk fun h => h
  refine CWL.reg (ops := [(.load 26 (.tmp 6), 26), (.call ⟨.value (.func 7), #[.tmp 1], #[26]⟩, 4), (.unOp .not 4 (.tmp 3), 4)]) (b := [(10, 5), (9, 3), (8, 1)]) (by kernel_rfl) ?_
  refine OpK.loadA (n := 5) (by kernel_rfl) rfl hb1.ata hone.2 ?_
  refine OpK.asCall rfl Sp.call7 rfl ((Sp.fits2 w1 w.heap.size (by omega) t cs hT1).mono ?_)
  rintro en w2 ⟨x2, he2, ⟨b, rfl⟩, hc2⟩
  refine ⟨_, he2, ?_⟩
  refine OpK.not rfl ?_
  show CWL _ _ _ _ _ _
  have hc12 : Ch (fun _ => False) w w2 := hc1.trans' hc2
  cases b with
  | false =>
    refine CWL.condT rfl ?_
    simp only [flat, List.cons_append, List.nil_append, List.append_nil]
    refine CWL.reg (ops := [(.assign (.const (Go.Value.bool true)), 4)]) (b := [(4, 1)]) (by kernel_rfl) ?_
    refine OpK.assign ?_
    show CWL _ _ _ _ _ _
    refine CWL.ret ?_
    exact ⟨_, rfl, rfl, hc12⟩
  | true =>
  refine CWL.condF rfl ?_
  simp only [flat, List.cons_append, List.nil_append, List.append_nil]
  have hb2 : Blk w2 g 26 cs := hb1.ch hc2
  have hv0 : 0 ≤ ((n : Int) % 4) := by omega
  have hvm : ((n : Int) % 4) ≤ 3 := by omega
  have hwr : IntKind.i16.wrap ((n : Int) % 4) = ((n : Int) % 4) := by
    have := i16_len (n := (((n : Int) % 4)).toNat) (by omega)
    rw [show (((((n : Int) % 4)).toNat : Nat) : Int) = ((n : Int) % 4) by omega] at this
    exact this
  obtain ⟨hfx, hmat⟩ := specB_at specOk hv0 hvm
  have hfx : flexB flex (((n : Int) % 4)) = false := hfx
  have hmat : matchS (((n : Int) % 4)) false sch (acts (((n : Int) % 4)) flds) = true := hmat
  have hshort := part_short2 (ver := ((n : Int) % 4)) (fx := false) costOk htw
  refine CWL.regD0 mixed [(1, true), (2, true), (3, true), (4, true), (0, false), (5, false), (6, true)] (by decide +kernel) ?_
  refine HW.early rfl rfl (Yi.move) ?_
  refine HW.early rfl rfl (Yi.convInt (k' := .i64) (by kernel_rfl) (by kernel_rfl) rfl) ?_
  refine HW.early rfl rfl (Yi.rem (a := (n : Int)) (b := 4) (by omega) (by omega) (congrArg (Value.int .i64) (i64_nat n (by omega))) rfl) ?_
  refine HW.early rfl rfl (Yi.loadA (n := 5) (by kernel_rfl) rfl (fun w' hw' => (hb2.ch hw').ata) hone.2) ?_
  refine HW.next rfl rfl ?_
  refine OpK.asCall rfl makes.1 rfl ((makes.2 _).mono ?_)
  rintro en w4 ⟨vF, he4, hF4, hc4⟩
  have hc24 : Ch (fun _ => False) w2 w4 := (Ch.drew _ _).trans' hc4
  refine ⟨_, he4, hc24, ?_⟩
  have hc14 : Ch (fun _ => False) w w4 := hc12.trans' hc24
  have hT4 := (hT.keep (w' := w4) fun k hk => hc14.block k hk fun h => h).up hc14.size
  refine HW.next rfl rfl ?_
  refine OpK.asCall rfl callK rfl ((kept w4 w4.heap.size 8 8 (Nat.le_refl _) (((n : Int) % 4)) flex flds vF hF4 plainOk t cs hT4 (by rw [hfx]; simp only [Lim]; omega)).mono ?_)
  rintro en w6 ⟨d6, he6, hg6⟩
  rw [hfx] at hg6
  refine ⟨_, he6, hc24.trans' hg6.new_ch, ?_⟩
  have hc16 : Ch (fun _ => False) w w6 := hc14.trans' hg6.new_ch
  refine HW.early rfl rfl (Yi.assign) ?_
  refine HW.done ?_
  show CWL _ _ _ _ _ _
  generalize hbd : be 2 (((n : Int) % 4)) ++ partF (((n : Int) % 4)) false 8 flds t = bs at hg6
  have hbl : bs.length = 2 + (partF (((n : Int) % 4)) false 8 flds t).length := by rw [← hbd, List.length_append, be_length]
  obtain ⟨y, hrd, henc, hyv⟩ := againK_plain (t := t) (d := 7) (v0 := V0) hwr hmat (okAt _ hv0 hvm) smallOk plainOk (startAt _) keyOk (verAt _)
  rw [hbd] at hrd henc
  have henc : enc (((n : Int) % 4)) false schK y = bs := henc
  have hrv : (rdInt .i16 2 ⟨bs, false⟩).1 = ((n : Int) % 4) := by
    have := rdInt_be (z := partF (((n : Int) % 4)) false 8 flds t) hwr
    rwa [hbd] at this
  have hsrc6 := own_oct hg6.own
  have herr6 : w6.cell? ⟨1, 0, none⟩ = some (.iface tE vE) := (ch_cell hc16 (a := ⟨1, 0, none⟩) hgE (fun h => h) rfl).trans herr
  refine CWL.reg (ops := [(.call ⟨.value (.func 20), #[.tmp 10], #[22]⟩, 34), (.extract (.tmp 1) 0, 22), (.extract (.tmp 1) 1, 4)]) (b := [(7, 5), (6, 3), (21, 5), (20, 3), (17, 1), (19, 1), (18, 10)]) (by kernel_rfl) ?_
  refine OpK.asCall rfl calAg rfl ((ag hsrc6 (fun k hk => hg6.own.lt hk) (by omega) herr6 (Nat.lt_of_lt_of_le hgE hc16.size) hrv hv0 (okAt _ hv0 hvm) (fun y' hy' => by rw [hrd] at hy'; cases hy'; exact ⟨by show (enc (((n : Int) % 4)) false schK y).length ≤ Lim; rw [henc]; simp only [Lim]; omega, hyv⟩)).mono ?_)
  rintro en w8 ⟨x8, b8, he8, hc8, hag⟩
  rw [hrd] at hag
  simp only [Option.map_some, henc] at hag
  obtain ⟨rfl, hoct⟩ := hag
  refine ⟨_, he8, ?_⟩
  refine OpK.extract (vs := #[x8, .bool true]) (v := x8) rfl rfl ?_
  refine OpK.extract (vs := #[x8, .bool true]) (v := .bool true) rfl rfl ?_
  show CWL _ _ _ _ _ _
  have hc18 : Ch (fun _ => False) w w8 := hc16.trans' hc8
  refine CWL.cons (CW.region ?_)
  refine RW.want rfl ?_
  refine OpK.move ?_
  refine RW.want rfl ?_
  refine OpK.move ?_
  refine RW.want rfl ?_
  refine OpK.move ?_
  refine RW.want rfl ?_
  refine OpK.move ?_
  refine RW.want rfl ?_
  refine OpK.asCall rfl Seat.sameIs.1 rfl ((Seat.sameIs.2 w8 (fun k => k < w8.heap.size) bs bs _ _ (hoct.mono fun k hk => hk.2) ((hsrc6.keep fun k hk => hc8.block k (hg6.own.lt hk) fun h => h).mono fun k hk => Nat.lt_of_lt_of_le (hg6.own.lt hk) hc8.size) (fun k hk => hk) (by omega) (by omega)).mono ?_)
  rintro en w9 ⟨he9, hc9⟩
  rw [beq_self_eq_true] at he9
  refine ⟨_, he9, ?_⟩
  refine RW.want rfl ?_
  refine OpK.pick rfl ?_
  refine RW.want rfl ?_
  refine OpK.assign ?_
  refine RW.z ?_
  show CWL _ _ _ _ _ _
  refine CWL.ret ?_
  exact ⟨_, rfl, rfl, hc18.trans' hc9⟩


end Go.Proofs.YtmgnfbbgjahnhaaDoor.ConsumerMemberMetadata
