/- OffsetCommitValue. -/
import Derived.Test.YtolbjfphpmojcaaDoorKxKtW
import Derived.Test.YtolbjfphpmojcaaDoorKxSaid
import Derived.Test.YtolbjfphpmojcaaDoorKxSeat
import Derived.Test.YtolbjfphpmojcaaDoorKxRdr
import Derived.Test.YtolbjfphpmojcaaDoorKxSnd
import Derived.Test.YtolbjfphpmojcaaDoorKxTgW
import Derived.Test.YtolbjfphpmojcaaDoorKxAgn
namespace Go.Proofs.YtolbjfphpmojcaaDoor.OffsetCommitValue
open Go.Kx Go.RowKit Go.Proofs
set_option maxRecDepth 100000
set_option linter.unusedVariables false
set_option linter.unusedSimpArgs false

def T : Ty := .cons (.int .i16) (.cons (.int .i64) (.cons (.int .i32) (.cons (.str) (.cons (.int .i64) (.cons (.int .i64) (.cons (.uuid) (.cons (.tags) (.nil))))))))
def T5 : Ty := .cons (.int .i16) (.cons (.int .i64) (.cons (.int .i32) (.cons .str (.cons (.int .i64) (.cons (.int .i64) .nil)))))
def sch : Sch := (.val .all 1 .i64 (.val (.ge 3) 2 .i32 (.val .all 3 .str (.val .all 4 .i64 (.val (.rng 1 1) 5 .i64 .nil)))))
def schK : Sch := .val .all 0 .i16 sch
def ps : List (Nat × V) := []
def tabD : List (Nat × Rf) := [(22, .dflt T5 ps)]

theorem cal22 : Callable Tryd.prog 22 := ⟨Tryd.f22, Tryd.func22, by kernel_rfl, by kernel_rfl⟩
theorem cal50 : Callable Tryd.prog 50 := ⟨Tryd.f50, Tryd.func50, by kernel_rfl, by kernel_rfl⟩
theorem call22 : Callable Tryd.prog 22 := cal22
theorem dfAll (eV : Value) : ∀ x ∈ tabD, Callable Tryd.prog x.1 ∧ RfOk Tryd.prog 1 eV x.1 x.2 := (all_cons ⟨cal22, chkDf_ok Tryd.func22 (by kernel_rfl)⟩ all_nil)
def tab : List (Nat × Rf) := tabD ++ Seat.tabR
theorem rd (eV : Value) : ∀ f a, rfAt tab f = some a → Callable Tryd.prog f ∧ RfOk Tryd.prog 1 eV f a := rfAt_all fun x hx => (List.mem_append.1 hx).elim (dfAll eV x) (Seat.rdAll eV x)

def V0 : V := (zeroV T5).puts ps
/-! ### A new one -/
theorem zeroOk : ((Tryd.prog.info? 46).bind (·.zero)).map (·.cells) = some (zeroC T).toArray := by kernel_rfl
theorem sizeOk : (Tryd.prog.info? 46).map (·.size) = some 23 := by kernel_rfl
theorem aggOk : aggSize Tryd.prog 46 = some 23 := by kernel_rfl
theorem zeroOne : ∀ u ∈ zeroC T, u.oneCell' = true := by decide
theorem zeroIs : zeroC T = zeroC T5 ++ (z16.map bv ++ [.map none]) := by rfl
theorem mixed : Tryd.prog.follows .mixedOrders = true := by kernel_rfl
theorem calUu : Callable Tryd.prog 49 := ⟨Tryd.f49, Tryd.func49, by kernel_rfl, by kernel_rfl⟩
theorem dfIs (w : World) (p : Value) : Calls Tryd.prog 22 #[p] w fun en w' => en = .returned (.tuple #[]) ∧ w' = w := by
  refine (Calls.of_CW (R := fun x w' => x = .tuple #[] ∧ w' = w) Tryd.func22 rfl (by decide +kernel) (Nat.le_of_ble_eq_true (by kernel_rfl)) (CW.of_flat ?_)).mono fun en w' ⟨x, he, hx, hR⟩ => ⟨by rw [he, hx], hR⟩
  simp only [flat, List.cons_append, List.nil_append, List.append_nil]
  exact ⟨_, rfl, rfl, rfl⟩
theorem calN : Callable Tryd.prog 12 := ⟨Tryd.f12, Tryd.func12, by kernel_rfl, by kernel_rfl⟩
set_option maxHeartbeats 4000000 in
theorem newIs (w : World) : Calls Tryd.prog 12 #[] w fun en w' => ∃ v, en = .returned v ∧ v = .agg (zeroC T).toArray ∧ Ch (fun _ => False) w w' := by
  refine Calls.of_CW_cell (t := 0) (ty := 46) Tryd.func12 rfl (by decide +kernel) (Nat.le_of_ble_eq_true (by kernel_rfl)) rfl (CW.of_flat ?_)
  simp only [flat, List.cons_append, List.nil_append, List.append_nil]
  refine CWL.reg (ops := [(.alloc 46, 0)]) (b := [(0, 1)]) (by kernel_rfl) ?_
  refine OpK.allocZ (zeroC T) zeroOk fun w1 r hr1 hc1 hr hs1 => ?_
  show CWL _ _ _ _ _ _
  refine CWL.reg (ops := [(.alloc 46, 0)]) (b := [(1, 1)]) (by kernel_rfl) ?_
  refine OpK.allocZ (zeroC T) zeroOk fun w2 g hb2 hc2 hg hs2 => ?_
  show CWL _ _ _ _ _ _
  have hr2 := hr1.ch hc2
  refine CWL.reg (ops := [(.call ⟨.value (.func 22), #[.tmp 2], #[46]⟩, 0)]) (b := [(2, 1)]) (by kernel_rfl) ?_
  refine OpK.asCall rfl call22 rfl ((dfIs w2 _).mono ?_)
  rintro en w3 ⟨he3, hw3⟩
  rw [hw3]
  refine ⟨_, he3, ?_⟩
  show CWL _ _ _ _ _ _
  have hc13 : Ch (fun _ => False) w w2 := hc1.trans' hc2
  refine CWL.reg (ops := [(.load 46 (.tmp 2), 46), (.store 46 (.tmp 0) (.tmp 1), 0)]) (b := [(3, 1)]) (by kernel_rfl) ?_
  refine OpK.loadA (n := 23) aggOk rfl hb2.ata rfl ?_
  refine OpK.storeG (cs := zeroC T) (us := zeroC T) (by kernel_rfl) rfl rfl zeroOne hr2 rfl fun w4 hr4 hc4 hs4 => ?_
  show CWL _ _ _ _ _ _
  refine CWL.ret ?_
  refine ⟨_, _, rfl, run_loadBlk aggOk hr4 rfl, rfl, hc13.trans hc4 fun k hk e => by omega⟩

/-! ### It is read -/
theorem i16Is : I16Is Tryd.prog 39 := fun w S g t s hS h => (Rd.r39 w S hS g t s h).mono fun en w' ⟨v, he, hv, h1, hc, _⟩ => ⟨v, he, hv, h1, hc⟩
theorem resIs : resTmp Tryd.f23 = some 6 := by kernel_rfl
theorem compIs (eV : Value) : RfOk Tryd.prog 1 eV 50 .comp := (rd eV 50 .comp (by kernel_rfl)).2
theorem uuIs (eV : Value) : RfOk Tryd.prog 1 eV 49 (.val false .uuid) := Rd.ok49 1 eV
theorem startK (ver : Int) : startB sch (V0.put 0 (.i ver)) = true := by kernel_rfl
theorem verK (ver : Int) : (V0.put 0 (.i ver)).fld 0 = .i ver := by kernel_rfl
theorem okK (ver : Int) (fx : Bool) : okB ver fx sch = true := by rfl
theorem wf5 : wfT T5 = true := by decide
theorem zeroR : ((Tryd.prog.info? 87).bind (·.zero)).map (·.cells) = some [Value.slice none 0 0, Value.bool false].toArray := by kernel_rfl
theorem zeroUu : ((Tryd.prog.info? 41).bind (·.zero)).map (·.cells) = some (List.replicate 16 (Value.int .u8 0)).toArray := by kernel_rfl
theorem sizeUu : (Tryd.prog.info? 41).map (·.size) = some 16 := by kernel_rfl
theorem sizeR : (Tryd.prog.info? 87).map (·.size) = some 2 := by kernel_rfl
theorem aggUu : aggSize Tryd.prog 41 = some 16 := by kernel_rfl
theorem ifaceErr : isIface Tryd.prog 49 = true := by kernel_rfl

/-- Where such a thing lies. -/
def Lies (w : World) (S : Nat → Prop) (g : Nat) (v : V × UT) : Prop :=
  ∃ c5 c, Blk w g 46 (c5 ++ (v.2.1.map bv ++ [c])) ∧ c5.length = 6 ∧ v.2.1.length = 16 ∧ Rep w S T5 v.1 c5 ∧ Rep w S .tags (.tags v.2.2) [c]
def Reads (eV : Value) (g : Nat) (res : Option ((V × UT) × List UInt8)) (w : World) (x : Value) (w' : World) : Prop :=
  Ch (fun k => k = g) w w' ∧ match res with
  | some y => x = .nilIface ∧ Lies w' (fun k => k < w'.heap.size ∧ k ≠ g) g y.1
  | none => x = eV

set_option maxHeartbeats 16000000 in
theorem readIs {w : World} {S : Nat → Prop} {g : Nat} {src : Value} {l : List UInt8} {tE : TypeId} {vE : Value} (hb : Blk w g 46 (zeroC T))
    (herr : w.cell? ⟨1, 0, none⟩ = some (.iface tE vE)) (hgE : 1 < w.heap.size ∧ 1 ≠ g) (hsrc : SrcIs w S l src) (hS : ∀ k, S k → k < w.heap.size ∧ k ≠ g) :
    Calls Tryd.prog 23 #[.pointer (some ⟨g, 0, none⟩), src, .bool false] w fun en w' => ∃ x, en = .returned x ∧ Reads (.iface tE vE) g (readKU 4 sch V0 l) w x w' := by
  obtain ⟨ms, hms⟩ := isIface_spec ifaceErr
  generalize hrv : (rdInt .i16 2 ⟨l, false⟩).1 = ver
  have hrd := readKU_eq (m := 4) (s := sch) (v := V0) hrv
  generalize hfx : decide (ver ≥ 4) = fx at hrd
  rw [hrd]
  refine preKU_use (fx := fx) (m := 4) (s := sch) (q := 7) (vr := 8) (fl := 9) (p := 10) (res := 6) (ps := ps) (T := T5) (R := fun x w' => Reads (.iface tE vE) g ((readKF ver fx sch V0 l).bind fun x => if fx = true then (decU x.2).map fun a => ((x.1, a.1), a.2) else some ((x.1, (z16, [])), x.2)) w x w') (hbody := rfl) 21 Seat.rdT Rd.call39 i16Is (rd (.iface tE vE)) Tryd.func23 resIs (by cases fx <;> kernel_rfl)
    (v0 := zeroV T5) (ver := ver) (o := 0) hb (by rw [zeroIs]; exact rep_zero _ _ _ wf5) (by decide) herr hgE hsrc hS hrv (verK ver) hfx.symm (okK ver fx) (startK ver) (fun hn w' hc => ⟨hc, by rw [show readKF ver fx sch V0 l = none from hn]; rfl⟩) ?_
  intro r σ w3 v3 s3 cells3 hSt hM hO hr hc3 hq hp hv hf hu
  change St (readKF ver fx sch V0 l) v3 s3 at hSt
  obtain ⟨c5, hcs, h5, hc5e⟩ := from_outside hO zeroIs rfl
  have h5 : c5.length = 6 := h5
  simp only [flat, List.cons_append, List.nil_append, List.append_nil, List.drop_succ_cons, List.drop_zero]
  refine CWL.pin [(2, .bool false), (7, .pointer (some ⟨r, 0, none⟩)), (9, .bool fx), (10, .pointer (some ⟨g, 0, none⟩))] (all_pin hu (all_pin hq (all_pin hf (all_pin hp (fun _ h => by cases h))))) fun σ => ?_
  have hrg : r ≠ g := hM.ne
  have hrep3 : Rep w3 (Ob (fun k => k = r ∨ k = g) w3) T5 v3 c5 := by rw [hc5e]; exact hM.rep
  have hb3 : Blk w3 g 46 (c5 ++ (z16.map bv ++ [.map none])) := by rw [← hcs]; exact hM.blk
  have h3 : RdIs w3 S r 87 s3 := hM.rd
  have herr3 : w3.cell? ⟨1, 0, none⟩ = some (.iface tE vE) := hM.err
  have hgE3 : 1 < w3.heap.size ∧ 1 ≠ r ∧ 1 ≠ g := hM.eW
  have hSl : ∀ k, S k → k < w3.heap.size ∧ ¬ (k = r ∨ k = g) := hM.src
  have hgl3 := hM.blk.lt
  have hrl3 := hM.rd.lt
  clear hM
  refine CWL.reg (ops := []) (b := [(77, 18)]) (by kernel_rfl) ?_
  show CWL _ _ _ _ _ _
  cases fx with
  | false =>
    refine CWL.condF rfl ?_
    simp only [flat, List.cons_append, List.nil_append, List.append_nil]
    refine CWL.reg (ops := [(.call ⟨.value (.func 50), #[.tmp 14], #[87]⟩, 49)]) (b := [(6, 1), (108, 1)]) (by kernel_rfl) ?_
    refine OpK.asCall rfl cal50 rfl ((compIs (.iface tE vE) w3 S r 87 s3 h3 herr3).mono ?_)
    rintro en w4 ⟨he4, hw4⟩
    rw [hw4]
    refine ⟨_, he4, ?_⟩
    show CWL _ _ _ _ _ _
    refine CWL.ret ?_
    refine ⟨_, rfl, hc3, ?_⟩
    simp only [Bool.false_eq_true, if_false]
    cases hd : readKF ver false sch V0 l with
    | none =>
      rw [hd] at hSt
      have hbad : s3.bad = true := hSt
      show (if s3.bad then Value.iface tE vE else .nilIface) = .iface tE vE
      rw [if_pos hbad]
    | some y =>
      rw [hd] at hSt
      obtain ⟨rfl, rfl⟩ := hSt
      exact ⟨rfl, c5, _, hb3, h5, rfl, hrep3.mono fun k hk => ⟨hk.1, fun h => hk.2 (.inr h)⟩, .inl ⟨rfl, rfl⟩⟩
  | true =>
    refine CWL.condT rfl ?_
    simp only [flat, List.cons_append, List.nil_append, List.append_nil]
    refine CWL.reg (ops := [(.call ⟨.value (.func 46), #[.tmp 14], #[87]⟩, 66)]) (b := [(16, 1), (78, 1)]) (by kernel_rfl) ?_
    refine OpK.asCall rfl Rd.call46 rfl ((Rd.r46 w3 S (fun k hk => (hSl k hk).1) r 87 s3 h3).mono ?_)
    rintro en w4 ⟨n, s4, he4, hn, h4, hc4, hg4, _⟩
    refine ⟨_, he4, ?_⟩
    show CWL _ _ _ _ _ _
    have hs4 := hc4.size
    have hb4 := hb3.keep (hc4.block g hgl3 (Ne.symm hrg))
    refine CWL.cons (CW.block (CW.loop (fun m σ w1 => ∃ (k : Nat) (u : List UInt8) (tl : List (Nat × List UInt8)) (s1 : Rs) (c : Value), m = k ∧ k < 4294967296 ∧ u.length = 16 ∧ σ 2 = .bool false ∧ σ 7 = .pointer (some ⟨r, 0, none⟩) ∧ σ 10 = .pointer (some ⟨g, 0, none⟩) ∧ σ 16 = .int .u32 (k : Int) ∧
        Blk w1 g 46 (c5 ++ (u.map bv ++ [c])) ∧ RdIs w1 S r 87 s1 ∧ Ch (fun k => k = r ∨ k = g) w3 w1 ∧ TM w1 S (fun k => w4.heap.size ≤ k ∧ k < w1.heap.size) c tl ∧ w4.heap.size ≤ w1.heap.size ∧ (∀ b s2, Got s1.o (decUN k (u, tl)) b s2 → Got s4.o (decUN n (z16, [])) b s2)) n
        ⟨n, z16, [], s4, .map none, rfl, hn, rfl, rfl, rfl, rfl, rfl, hb4, h4, hc4.mono fun _ _ h => .inl h, .inl ⟨rfl, rfl⟩, Nat.le_refl _, fun _ _ h => h⟩ ?_))
    rintro m σ w1 ⟨k, u, tl, s1, c, rfl, hk, hul, q2, q7, q10, q16, hb1, h1, hc1, hTM, hsz1, hgot⟩
    refine CW.pin [(2, .bool false), (7, .pointer (some ⟨r, 0, none⟩)), (10, .pointer (some ⟨g, 0, none⟩)), (16, .int .u32 (m : Int))] (all_pin q2 (all_pin q7 (all_pin q10 (all_pin q16 (fun _ h => by cases h))))) fun σ => ?_
    simp only [flat, List.cons_append, List.nil_append, List.append_nil]
    have hSl1 : ∀ k, S k → k < w1.heap.size := fun k hk => by have := (hSl k hk).1; have := hc1.size; omega
    have hgl1 := hb1.lt
    have hrl1 := h1.lt
    have herr1 : w1.cell? ⟨1, 0, none⟩ = some (.iface tE vE) := (ch_cell hc1 (a := ⟨1, 0, none⟩) hgE3.1 (fun h => by rcases h with h | h; exact hgE3.2.1 h; exact hgE3.2.2 h) rfl).trans herr3
    have hull : (u.map bv).length = 16 := by rw [List.length_map]; exact hul
    have hc31 := hc1.size
    refine CWL.reg (ops := [(.binOp .gtr 66 (.tmp 32) (.const (Go.Value.int Go.IntKind.u32 0)) 66, 4)]) (b := [(80, 1), (79, 32)]) (by kernel_rfl) ?_
    refine OpK.cmp rfl rfl rfl ?_
    show CWL _ _ _ _ _ _
    cases m with
    | zero =>
      refine CWL.condF (congrArg Value.bool (decide_eq_false (by omega))) ?_
      simp only [flat, List.cons_append, List.nil_append, List.append_nil]
      refine CWL.cons (CW.exit ?_)
      simp only [Then, InBlock, if_true]
      show CWL _ _ _ _ _ _
      refine CWL.reg (ops := [(.call ⟨.value (.func 50), #[.tmp 14], #[87]⟩, 49)]) (b := [(6, 1), (108, 1)]) (by kernel_rfl) ?_
      refine OpK.asCall rfl cal50 rfl ((compIs (.iface tE vE) w1 S r 87 s1 h1 herr1).mono ?_)
      rintro en w5 ⟨he5, hw5⟩
      rw [hw5]
      refine ⟨_, he5, ?_⟩
      show CWL _ _ _ _ _ _
      refine CWL.ret ?_
      refine ⟨_, rfl, hc3.trans hc1 fun k hk e => by rcases e with e | e; (have := hr; omega); exact e, ?_⟩
      try simp only [if_true]
      have hgU : Got s3.o decU (u, tl) s1 := Got.bind (d2 := fun n l => decUN n (z16, []) l) hg4 (hgot (u, tl) s1 (Got.pure (s := s1) (u, tl)))
      cases hd : readKF ver true sch V0 l with
      | none =>
        rw [hd] at hSt
        have hbad : s3.bad = true := hSt
        rw [Got, show s3.o = none by unfold Rs.o; rw [hbad]; rfl] at hgU
        have hb1' : s1.bad = true := hgU
        show (if s1.bad then Value.iface tE vE else .nilIface) = .iface tE vE
        rw [if_pos hb1']
      | some x0 =>
        rw [hd] at hSt
        obtain ⟨rfl, rfl⟩ := hSt
        rw [Got, show (⟨x0.2, false⟩ : Rs).o = some x0.2 from rfl, Option.bind_some] at hgU
        simp only [Option.bind_some]
        cases hdU : decU x0.2 with
        | none =>
          rw [hdU] at hgU
          have hb1' : s1.bad = true := hgU
          show (if s1.bad then Value.iface tE vE else .nilIface) = .iface tE vE
          rw [if_pos hb1']
        | some y =>
          rw [hdU] at hgU
          obtain ⟨hy1, rfl⟩ := hgU
          simp only [Option.map_some, ← hy1]
          exact ⟨rfl, c5, c, hb1, h5, hul, hrep3.keepMono (fun k hk => hc1.block k hk.1 (fun h => hk.2 h)) (fun k hk => ⟨by have := hk.1; omega, fun h => hk.2 (.inr h)⟩), hTM.rep (fun k hk => ⟨hSl1 k hk, fun h => (hSl k hk).2 (.inr h)⟩) (fun k hk => ⟨hk.2, by omega⟩)⟩
    | succ k =>
    refine CWL.condT (congrArg Value.bool (decide_eq_true (by omega))) ?_
    simp only [flat, List.cons_append, List.nil_append, List.append_nil]
    refine CWL.block ?_
    simp only [flat, List.cons_append, List.nil_append, List.append_nil]
    refine CWL.reg (ops := [(.call ⟨.value (.func 46), #[.tmp 14], #[87]⟩, 66)]) (b := [(17, 1), (83, 1)]) (by kernel_rfl) ?_
    refine OpK.asCall rfl Rd.call46 rfl ((Rd.r46 w1 S hSl1 r 87 s1 h1).mono ?_)
    rintro en w5 ⟨x1, sa, he5, hx1, h5a, hc5, hga, _⟩
    refine ⟨_, he5, ?_⟩
    show CWL _ _ _ _ _ _
    have hs5 := hc5.size
    refine CWL.reg (ops := []) (b := [(84, 34)]) (by kernel_rfl) ?_
    show CWL _ _ _ _ _ _
    refine CWL.block ?_
    simp only [flat, List.cons_append, List.nil_append, List.append_nil]
    refine CWL.reg (ops := [(.binOp .eql 66 (.tmp 168) (.const (Go.Value.int Go.IntKind.u32 0)) 66, 4)]) (b := [(93, 1), (94, 1)]) (by kernel_rfl) ?_
    refine OpK.cmp rfl rfl rfl ?_
    show CWL _ _ _ _ _ _
    by_cases hx0 : x1 = 0
    · subst hx0
      refine CWL.condT rfl ?_
      simp only [flat, List.cons_append, List.nil_append, List.append_nil]
      refine CWL.reg (ops := [(.call ⟨.value (.func 46), #[.tmp 14], #[87]⟩, 66), (.convert 66 3 (.tmp 1), 3), (.call ⟨.value (.func 48), #[.tmp 14, .tmp 3], #[87, 3]⟩, 22), (.build 87 #[(0, .tmp 5)], 87), (.alloc 87, 0), (.store 87 (.tmp 9) (.tmp 7), 0)]) (b := [(18, 9), (98, 7), (97, 5), (96, 3), (95, 1)]) (by kernel_rfl) ?_
      refine OpK.asCall rfl Rd.call46 rfl ((Rd.r46 w5 S (fun k hk => by have := hSl1 k hk; omega) r 87 sa h5a).mono ?_)
      rintro en w6 ⟨x2, sb, he6, hx2, h6, hc6, hgb, _⟩
      refine ⟨_, he6, ?_⟩
      have hs6 := hc6.size
      refine OpK.convInt (k := .u32) (k' := .i64) (n := (x2 : Int)) (by kernel_rfl) (by kernel_rfl) rfl ?_
      rw [(i64_of_u32 x2 hx2).1]
      refine OpK.asCall rfl Rd.call48 rfl ((Rd.sp48 w6 S (fun k hk => by have := hSl1 k hk; omega) r 87 sb h6 (x2 : Int)).mono ?_)
      rintro en w7 ⟨v7, he7, hv7, h7, hc7, _⟩
      refine ⟨_, he7, ?_⟩
      have hs7 := hc7.size
      obtain ⟨a7, cc7, rfl, hlc7⟩ := hv7.form
      refine OpK.build (cells := #[.slice a7 ((rdSpan (x2 : Int) sb).1.getD []).length cc7, .bool false]) (Seat.rdT.made a7 _ cc7) ?_
      refine OpK.allocZ [.slice none 0 0, .bool false] zeroR fun w8 q8 hb8 hc8 hq8 hs8 => ?_
      refine OpK.storeG (cs := [.slice none 0 0, .bool false]) (us := [.slice a7 ((rdSpan (x2 : Int) sb).1.getD []).length cc7, .bool false]) sizeR rfl rfl (by intro u hu; simp only [List.mem_cons, List.not_mem_nil, or_false] at hu; rcases hu with rfl | rfl <;> rfl) hb8 rfl fun w9 hb9 hc9 hs9 => ?_
      show CWL _ _ _ _ _ _
      have hc17 : Ch (fun k => k = r) w1 w7 := (hc5.trans' hc6).trans' hc7
      have hc79 : Ch (fun _ => False) w7 w9 := hc8.trans hc9 fun i hi e => by omega
      have hi9 : RdIs w9 S q8 87 ⟨(rdSpan (x2 : Int) sb).1.getD [], false⟩ := ⟨_, hb9, hv7.keep fun k hk => hc79.block k (by have := hSl1 k hk; omega) fun h => h, fun h => by have := hSl1 q8 h; omega⟩
      refine CWL.reg (ops := [(.call ⟨.value (.func 49), #[.tmp 36], #[87]⟩, 41), (.alloc 41, 0), (.store 41 (.tmp 3) (.tmp 1), 0)]) (b := [(19, 3), (99, 1)]) (by kernel_rfl) ?_
      refine OpK.asCall rfl calUu rfl ((uuIs (.iface tE vE) w9 S q8 87 ⟨(rdSpan (x2 : Int) sb).1.getD [], false⟩ (fun k hk => by have := hSl1 k hk; omega) hi9).mono ?_)
      rintro en w10 ⟨uu, cu, si, he10, hi10, hc10, hru, hgi⟩
      refine ⟨_, he10, ?_⟩
      have hs10 := hc10.size
      obtain ⟨u', rfl, h16, rfl⟩ := rep_uuid hru
      refine OpK.allocZ (List.replicate 16 (.int .u8 0)) zeroUu fun w11 q11 hb11 hc11 hq11 hs11 => ?_
      refine OpK.storeG (cs := List.replicate 16 (.int .u8 0)) (us := u'.map bv) (by rw [List.length_map, h16]; exact sizeUu) rfl rfl (bv_one u') hb11 (by simp [h16]) fun w12 hb12 hc12 hs12 => ?_
      show CWL _ _ _ _ _ _
      have hc712 : Ch (fun _ => False) w7 w12 := ((hc79.trans hc10 fun i hi e => by omega).trans' hc11).trans hc12 fun i hi e => by omega
      have hs12' := hc712.size
      have hb12g : Blk w12 g 46 (c5 ++ (u.map bv ++ [c])) := (hb1.keep (hc17.block g hgl1 (Ne.symm hrg))).keep (hc712.block g (by omega) fun h => h)
      have hi12 : RdIs w12 S q8 87 si := hi10.keepG ((hc12.block q8 (by omega) (by omega)).trans (hc11.block q8 (by omega) fun h => h)) fun k hk => (hc12.block k (by have := hSl1 k hk; omega) (by have := hSl1 k hk; omega)).trans (hc11.block k (by have := hSl1 k hk; omega) fun h => h)
      have h12 : RdIs w12 S r 87 (rdSpan (x2 : Int) sb).2 := h7.keepG (hc712.block r (by omega) fun h => h) fun k hk => hc712.block k (by have := hSl1 k hk; omega) fun h => h
      have hTM12 : TM w12 S (fun k => w4.heap.size ≤ k ∧ k < w12.heap.size) c tl := hTM.keep (fun k hk => (hc712.block k (by have := hSl1 k hk; omega) fun h => h).trans (hc17.block k (hSl1 k hk) fun e => (hSl k hk).2 (.inl e))) fun k hk => ⟨(hc712.block k (by omega) fun h => h).trans (hc17.block k hk.2 (by omega)), hk.1, by omega⟩
      have hu' : (u'.map bv).length = 16 := by rw [List.length_map]; exact h16
      refine CWL.reg (ops := [(.load 41 (.tmp 38), 41), (.nilCheck (.tmp 20), 0), (.fieldAddr 46 (.tmp 3) 6, 0), (.store 41 (.tmp 5) (.tmp 1), 0)]) (b := [(103, 5), (102, 3), (101, 1), (100, 20)]) (by kernel_rfl) ?_
      refine OpK.loadA (n := 16) aggUu rfl hb12.ata hu' ?_
      refine OpK.nilCheck rfl ?_
      refine OpK.fieldAddr (off := 6) (by kernel_rfl) rfl ?_
      refine OpK.storeV (c := u'.map bv) (v := .agg (u'.map bv).toArray) (g := g) (o := 6) (tG := 46) (cells := c5 ++ (u.map bv ++ [c])) (by rw [hu']; exact sizeUu) rfl rfl (.inl rfl) (bv_one u') hb12g (by rw [List.length_append, List.length_append, h5, hull, hu']; simp) ?_
      show CWL _ _ _ _ _ _
      have hb13 := hb12g.setCells (u'.map bv) 6 (by rw [List.length_append, List.length_append, h5, hull, hu']; simp)
      rw [mid_spl h5 (by rw [hu', hull])] at hb13
      have hc13 := setCells_ch g (u'.map bv) 6 w12
      have hk13 : ∀ k, k ≠ g → (w12.setCells g 6 (u'.map bv)).heap[k]? = w12.heap[k]? := fun k hk => setCells_heap g _ _ _ _ hk
      generalize w12.setCells g 6 (u'.map bv) = w13 at hb13 hc13 hk13 ⊢
      have hs13 := hc13.size
      have hi13 := hi12.keepG (hk13 q8 (by omega)) fun k hk => hk13 k fun e => (hSl k hk).2 (.inr e)
      have h13 := h12.keepG (hk13 r hrg) fun k hk => hk13 k fun e => (hSl k hk).2 (.inr e)
      have hTM13 : TM w13 S (fun k => w4.heap.size ≤ k ∧ k < w13.heap.size) c tl := hTM12.keep (fun k hk => hk13 k fun e => (hSl k hk).2 (.inr e)) fun k hk => ⟨hk13 k (by omega), hk.1, by omega⟩
      have hc113 : Ch (fun k => k = r ∨ k = g) w1 w13 := ((hc17.mono fun _ _ h => .inl h : Ch (fun k => k = r ∨ k = g) w1 w7).trans' (hc712.mono fun _ _ h => h.elim)).trans' (hc13.mono fun _ _ h => .inr h)
      have hc313 := hc1.trans' hc113
      have herr13 : w13.cell? ⟨1, 0, none⟩ = some (.iface tE vE) := (ch_cell hc313 (a := ⟨1, 0, none⟩) hgE3.1 (fun h => by rcases h with h | h; exact hgE3.2.1 h; exact hgE3.2.2 h) rfl).trans herr3
      have hgi' : Got (some ((rdSpan (x2 : Int) sb).1.getD [])) (decSpan 16) u' si := by
        have h9 := hgi
        unfold Got at h9 ⊢
        rw [show (⟨(rdSpan (x2 : Int) sb).1.getD [], false⟩ : Rs).o = some ((rdSpan (x2 : Int) sb).1.getD []) from rfl, Option.bind_some, show decW false .uuid ((rdSpan (x2 : Int) sb).1.getD []) = (decSpan 16 ((rdSpan (x2 : Int) sb).1.getD [])).map (fun x => (V.u x.1, x.2)) from rfl] at h9
        rw [Option.bind_some]
        cases hdd : decSpan 16 ((rdSpan (x2 : Int) sb).1.getD []) with
        | none => rw [hdd] at h9; exact h9
        | some y => rw [hdd] at h9; simp only [Option.map_some] at h9; exact ⟨by have := h9.1; simpa using this, h9.2⟩
      refine CWL.reg (ops := [(.call ⟨.value (.func 50), #[.tmp 36], #[87]⟩, 49)]) (b := [(20, 1), (104, 1)]) (by kernel_rfl) ?_
      refine OpK.asCall rfl cal50 rfl ((compIs (.iface tE vE) w13 S q8 87 si hi13 herr13).mono ?_)
      rintro en w14 ⟨he14, hw14⟩
      rw [hw14]
      refine ⟨_, he14, ?_⟩
      show CWL _ _ _ _ _ _
      cases hbad : si.bad with
      | true =>
        refine CWL.reg (ops := [(.binOp .neq 49 (.tmp 40) (.const (Go.Value.nilIface)) 49, 4)]) (b := [(106, 1), (105, 40)]) (by kernel_rfl) ?_
        refine OpK.cmpNil (v := .iface tE vE) (b := true) hms rfl rfl (.inr ⟨⟨tE, vE, rfl⟩, rfl⟩) ?_
        show CWL _ _ _ _ _ _
        refine CWL.condT rfl ?_
        simp only [flat, List.cons_append, List.nil_append, List.append_nil]
        refine CWL.reg (ops := []) (b := [(6, 40), (107, 40)]) (by kernel_rfl) ?_
        show CWL _ _ _ _ _ _
        refine CWL.ret ?_
        refine ⟨_, rfl, hc3.trans hc313 fun k hk e => by rcases e with e | e; (have := hr; omega); exact e, ?_⟩
        have hgF : ∀ b, Got s3.o decU b Rs.fail := fun b => Got.bind (d2 := fun n l => decUN n (z16, []) l) hg4 (hgot b Rs.fail (decUN_bad hga hgb hgi' hbad))
        have hno : ((readKF ver true sch V0 l).bind fun x => if true = true then (decU x.2).map fun a => ((x.1, a.1), a.2) else some ((x.1, (z16, [])), x.2)) = none := by
          cases hd : readKF ver true sch V0 l with
          | none => rfl
          | some x0 =>
            rw [hd] at hSt
            obtain ⟨rfl, rfl⟩ := hSt
            have h9 := hgF (z16, [])
            rw [Got, show (⟨x0.2, false⟩ : Rs).o = some x0.2 from rfl, Option.bind_some] at h9
            simp only [Option.bind_some, if_true]
            cases hdU : decU x0.2 with
            | none => rfl
            | some y => rw [hdU] at h9; have := congrArg Rs.bad h9.2; cases this
        simp only [if_true] at hno ⊢
        rw [hno]
        rfl
      | false =>
        refine CWL.reg (ops := [(.binOp .neq 49 (.tmp 40) (.const (Go.Value.nilIface)) 49, 4)]) (b := [(106, 1), (105, 40)]) (by kernel_rfl) ?_
        refine OpK.cmpNil (v := .nilIface) (b := false) hms rfl rfl (.inl ⟨rfl, rfl⟩) ?_
        show CWL _ _ _ _ _ _
        refine CWL.condF rfl ?_
        simp only [flat, List.cons_append, List.nil_append, List.append_nil]
        show CWL _ _ _ _ _ _
        refine CWL.reg (ops := [(.binOp .sub 66 (.tmp 32) (.const (Go.Value.int Go.IntKind.u32 1)) 66, 66)]) (b := [(16, 1), (82, 1), (81, 32)]) (by kernel_rfl) ?_
        refine OpK.arith rfl rfl rfl ?_
        show CWL _ _ _ _ _ _
        refine ⟨k, by omega, k, u', tl, (rdSpan (x2 : Int) sb).2, c, rfl, by omega, h16, rfl, rfl, rfl, ?_, hb13, h13, hc313, hTM13, by omega, fun b s2 hb => hgot b s2 (decUN_uuid hga hgb hgi' hbad hb)⟩
        show Value.int .u32 (IntKind.u32.wrap (((k + 1 : Nat) : Int) - 1)) = _
        congr 1
        rw [IntKind.wrap_u32]
        omega
    · refine CWL.condF (congrArg Value.bool (by simp [hx0])) ?_
      simp only [flat, List.cons_append, List.nil_append, List.append_nil]
      refine CWL.regD mixed ((fun _ => True)) [(0, true), (1, true), (2, true), (3, true), (4, false), (5, true), (6, false), (7, false)] (by decide +kernel) (trivial) ?_
      refine HW.early rfl rfl (Yi.move) ?_
      refine HW.early rfl rfl (Yi.nilCheck rfl) ?_
      refine HW.early rfl rfl (Yi.fieldAddr (off := 22) (by kernel_rfl) rfl) ?_
      refine HW.early rfl rfl (Yi.move) ?_
      refine HW.next rfl rfl ?_
      refine OpK.asCall rfl Rd.call46 rfl ((Rd.r46 w5.drew S (fun k hk => by have := hSl1 k hk; simp only [World.drew]; omega) r 87 sa (h5a.keepG (w' := w5.drew) rfl fun k hk => rfl)).mono ?_)
      rintro en w6 ⟨x2, sb, he6, hx2, h6, hc6, hgb, _⟩
      refine ⟨_, he6, trivial, ?_⟩
      have hs6 := hc6.size
      refine HW.early rfl rfl (Yi.convInt (k' := .i64) (by kernel_rfl) (by kernel_rfl) rfl) ?_
      refine HW.next rfl rfl ?_
      refine OpK.asCall rfl Rd.call48 rfl ?_
      show Calls _ _ #[.pointer (some ⟨r, 0, none⟩), .int .i64 (IntKind.i64.wrap (x2 : Int))] _ _
      rw [(i64_of_u32 x2 hx2).1]
      refine (Rd.sp48 w6 S (fun k hk => by have := hSl1 k hk; simp only [World.drew] at hs6; omega) r 87 sb h6 (x2 : Int)).mono ?_
      rintro en w7 ⟨v7, he7, hv7, h7, hc7, _⟩
      refine ⟨_, he7, trivial, ?_⟩
      have hs7 := hc7.size
      have hc17 : Ch (fun k => k = r) w1 w7 := ((hc5.trans' (Ch.drew _ _)).trans' hc6).trans' hc7
      have hs17 := hc17.size
      have hb7 := hb1.keep (hc17.block g hgl1 (Ne.symm hrg))
      have hTM7 : TM w7 S (fun k => w4.heap.size ≤ k ∧ k < w7.heap.size) c tl := hTM.keep (fun k hk => hc17.block k (hSl1 k hk) fun e => (hSl k hk).2 (.inl e)) fun k hk => ⟨hc17.block k hk.2 (by omega), hk.1, by omega⟩
      refine HW.next rfl rfl ?_
      refine OpK.asCall rfl Rd.call47 rfl ((Rd.set47 w7 S (fun k => w4.heap.size ≤ k ∧ k < w7.heap.size) g 22 46 (c5 ++ (u.map bv ++ [c])) c tl x1 ((rdSpan (x2 : Int) sb).1.getD []) v7 hb7 (end_get (by omega)) hTM7 (fun k hk => by have := hSl1 k hk; omega) (fun h => (hSl g h).2 (.inr rfl)) (fun k hk => ⟨fun h => by have := (hSl k h).1; omega, hk.2, by omega⟩) hx1 (hv7.oct fun _ h => h)).mono ?_)
      rintro en w8 ⟨he8, c8, hb8, hTM8, hc8⟩
      refine ⟨_, he8, trivial, ?_⟩
      refine HW.done ?_
      rw [end_set (by omega)] at hb8
      have hs8 := hc8.size
      have hc38 : Ch (fun k => k = r ∨ k = g) w3 w8 := (hc1.trans' (hc17.mono fun _ _ h => .inl h)).trans hc8 fun i hi e => by
        rcases e with e | e
        · exact .inr e
        · omega
      have h8 := h7.keepG (hc8.block r (by omega) (fun e => by rcases e with e | e; exact hrg e; omega)) fun k hk => hc8.block k (by have := hSl1 k hk; omega) (fun e => by rcases e with e | e; exact (hSl k hk).2 (.inr e); (have := (hSl k hk).1; omega))
      have hga' : Got s1.o decUv x1 sa := hga
      show CWL _ _ _ _ _ _
      refine CWL.reg (ops := [(.binOp .sub 66 (.tmp 32) (.const (Go.Value.int Go.IntKind.u32 1)) 66, 66)]) (b := [(16, 1), (82, 1), (81, 32)]) (by kernel_rfl) ?_
      refine OpK.arith rfl rfl rfl ?_
      show CWL _ _ _ _ _ _
      refine ⟨k, by omega, k, u, setTag tl x1 ((rdSpan (x2 : Int) sb).1.getD []), (rdSpan (x2 : Int) sb).2, c8, rfl, by omega, hul, rfl, rfl, rfl, ?_, hb8, h8, hc38, hTM8.keep (fun _ _ => rfl) (fun k hk => ⟨rfl, by rcases hk with hk | hk <;> omega, by rcases hk with hk | hk <;> omega⟩), by omega, fun b s2 hb => hgot b s2 (decUN_set hga' hgb hx0 hb)⟩
      show Value.int .u32 (IntKind.u32.wrap (((k + 1 : Nat) : Int) - 1)) = _
      congr 1
      rw [IntKind.wrap_u32]
      omega

/-! ### It is written -/
theorem undKk : Tryd.prog.underlying 65 = some (.slice 66) := by kernel_rfl
theorem u32 : U32 Tryd.prog 66 := by unfold U32; kernel_rfl
theorem undUu : Tryd.prog.underlying 41 = some (.array 16 5) := by kernel_rfl
theorem infU8 : (Tryd.prog.info? 5).isSome = true := by kernel_rfl
theorem cellU8 : Tryd.prog.cellsOf 5 = 1 := by kernel_rfl
theorem undU8 : Tryd.prog.underlying 5 = some (.int .u8) := by kernel_rfl
theorem oneU8 : oneB Tryd.prog 5 = true := by kernel_rfl
theorem guardUu : Tryd.prog.eqGuardType Tryd.prog.depth 41 = false := by kernel_rfl
theorem calUv : Callable Tryd.prog 29 := ⟨Tryd.f29, Tryd.func29, by kernel_rfl, by kernel_rfl⟩
theorem calAu : Callable Tryd.prog 31 := ⟨Tryd.f31, Tryd.func31, by kernel_rfl, by kernel_rfl⟩
theorem calTl : Callable Tryd.prog 30 := ⟨Tryd.f30, Tryd.func30, by kernel_rfl, by kernel_rfl⟩
theorem calTe : Callable Tryd.prog 32 := ⟨Tryd.f32, Tryd.func32, by kernel_rfl, by kernel_rfl⟩
set_option maxHeartbeats 16000000 in
theorem writeIs (hsort : SortIs Tryd.prog 79 80 65 66) {w : World} {g : Nat} {v : V × UT} {ver : Int} (hL : Lies w (fun k => k < w.heap.size) g v) (hver : v.1.fld 0 = .i ver) (hl : (encKU ver 4 sch v).length ≤ Lim) :
    Calls Tryd.prog 14 #[.pointer (some ⟨g, 0, none⟩), .slice none 0 0] w fun en w' => ∃ d', en = .returned d' ∧ Grew 5 w (.slice none 0 0) w' d' (encKU ver 4 sch v) := by
  obtain ⟨v5, u, t⟩ := v
  obtain ⟨c5, c, hb, h5, hul, hrep, hrt⟩ := hL
  have hul : u.length = 16 := hul
  have hver : v5.fld 0 = .i ver := hver
  have hsnd := TgW.sound1 hsort
  have hu0 : (u.map bv).length = 16 := by rw [List.length_map]; exact hul
  have his : Is w (fun k => k < w.heap.size) g 0 T5 v5 := ⟨c5, hrep, fun j x hj => by
    have hjl := (List.getElem?_eq_some_iff.1 hj).1
    rw [Nat.zero_add, hb.cell, List.getElem?_append_left hjl]
    exact hj⟩
  unfold encKU at hl ⊢
  generalize hfx : decide (ver ≥ 4) = fx at hl
  simp only [List.length_append] at hl
  refine preAP_use (m := 4) (s := schK) (T := T5) (vr := 5) (fl := 6) (tab := Snd.tab) (R := fun d' w' => Grew 5 w (.slice none 0 0) w' d' (enc ver fx schK v5 ++ if fx = true then encU (u, t) else [])) (hbody := rfl) 18 hsnd Tryd.func14 (by kernel_rfl) (S := fun k => k < w.heap.size) (g := g) (o := 0) (v := v5) (ver := ver) (d := .slice none 0 0) (bs := [])
    (.inl rfl) his hb.lt hver (Own.nil _ w) (fun k hk => ⟨hk, by simp [Value.ownBlock]⟩) (by rw [hfx, List.length_nil, Nat.zero_add]; exact Nat.le_trans (Nat.le_add_right _ _) hl) ?_
  intro σ w3 hg3 hp hv hf
  rw [hfx] at hg3 hf
  rw [List.nil_append] at hg3
  obtain ⟨d3, hd3⟩ : ∃ d3, σ 1 = d3 := ⟨_, rfl⟩
  rw [hd3] at hg3
  simp only [flat, List.cons_append, List.nil_append, List.append_nil, List.drop_succ_cons, List.drop_zero]
  refine CWL.pin [(0, .pointer (some ⟨g, 0, none⟩)), (1, d3), (6, .bool fx)] (all_pin hp (all_pin hd3 (all_pin hf (fun _ h => by cases h)))) fun σ => ?_
  have hc3 := hg3.new_ch
  have hb3 := hb.keep (hc3.block g hb.lt fun h => h)
  refine CWL.reg (ops := []) (b := [(79, 12)]) (by kernel_rfl) ?_
  show CWL _ _ _ _ _ _
  cases fx with
  | false =>
    refine CWL.condF rfl ?_
    simp only [flat, List.cons_append, List.nil_append, List.append_nil]
    refine CWL.reg (ops := []) (b := [(4, 2), (125, 2)]) (by kernel_rfl) ?_
    show CWL _ _ _ _ _ _
    refine CWL.ret ?_
    refine ⟨_, rfl, ?_⟩
    simp only [Bool.false_eq_true, if_false, List.append_nil]
    exact hg3
  | true =>
    refine CWL.condT rfl ?_
    simp only [flat, List.cons_append, List.nil_append, List.append_nil]
    simp only [if_true] at hl ⊢
    obtain ⟨iu, hiu⟩ := Option.isSome_iff_exists.1 infU8
    refine CWL.reg (ops := [(.assign (.const (Go.Value.slice none 0 0)), 65)]) (b := [(13, 1)]) (by kernel_rfl) ?_
    refine OpK.assign ?_
    show CWL _ _ _ _ _ _
    refine CWL.reg (ops := [(.nilCheck (.tmp 0), 0), (.fieldAddr 46 (.tmp 1) 6, 0), (.load 41 (.tmp 3), 41), (.build 41 #[], 41), (.binOp .neq 41 (.tmp 5) (.tmp 7) 41, 4)]) (b := [(85, 9), (84, 7), (83, 5), (82, 3), (81, 1), (80, 0)]) (by kernel_rfl) ?_
    refine OpK.nilCheck rfl ?_
    refine OpK.fieldAddr (off := 6) (by kernel_rfl) rfl ?_
    refine OpK.loadA (n := 16) aggUu rfl (mid_at hb3 h5) hu0 ?_
    refine OpK.build (cells := (z16.map bv).toArray) (by kernel_rfl) ?_
    refine OpK.cmpOct (a := u) (b := z16) undUu hiu cellU8 undU8 oneU8 guardUu rfl rfl hul rfl ?_
    show CWL _ _ _ _ _ _
    have hkn : KOwn 66 w3 (.slice none 0 0) [] := KOwn.nil _ _
    refine CWL.condJ (b := !(u == z16)) rfl (fun σ' w4 => ∃ te, σ' 0 = .pointer (some ⟨g, 0, none⟩) ∧ σ' 1 = d3 ∧ σ' 6 = .bool true ∧ σ' 13 = te ∧ KOwn 66 w4 te (if u = z16 then [] else [0]) ∧ Ch (fun _ => False) w3 w4 ∧ ∀ k, te.ownBlock = some k → w3.heap.size ≤ k) (fun hu => ?_) (fun hu => ?_) ?_
    · refine CW.of_flat ?_
      simp only [flat, List.cons_append, List.nil_append, List.append_nil]
      have hne : u ≠ z16 := by simpa using hu
      obtain ⟨v', w4, hr4, hown4, hch4, hat4⟩ := append_key (ty := 65) undKk u32 hkn 0 (by simp)
      refine CWL.reg (ops := [(.buildSlice 65 1 #[(0, .const (Go.Value.int Go.IntKind.u32 0))], 65), (.call ⟨.builtin .append, #[.tmp 26, .tmp 1], #[65, 65]⟩, 65)]) (b := [(13, 3), (88, 3), (87, 1), (86, 26)]) (by kernel_rfl) ?_
      refine OpK.buildS (v := .slice (some ⟨w3.heap.size, 0, none⟩) 1 1) (w' := w3.alloc (.cells #[kv 0] 66)) (by simp only [List.map_toArray, List.map_cons, List.map_nil]; exact run_bsK undKk u32 0) ?_
      refine OpK.run rfl hr4 ?_
      show CWL _ _ _ _ _ _
      exact ⟨v', rfl, rfl, rfl, rfl, by rw [if_neg hne]; exact hown4, hch4.mono fun k _ hk => (by cases hk), fun k hk => (hat4 k hk).resolve_left fun h => by cases h⟩
    · refine CW.of_flat ?_
      simp only [flat, List.cons_append, List.nil_append, List.append_nil]
      have he : u = z16 := by simpa using hu
      exact ⟨.slice none 0 0, rfl, rfl, rfl, rfl, by rw [if_pos he]; exact KOwn.nil _ _, Ch.refl _ _, fun k hk => by cases hk⟩
    rintro σ w4 ⟨te, p0, p1, p6, p13, hte, hc4, hnew⟩
    refine CWL.pin [(0, .pointer (some ⟨g, 0, none⟩)), (1, d3), (13, te)] (all_pin p0 (all_pin p1 (all_pin p13 (fun _ h => by cases h)))) fun σ => ?_
    have hb4 := hb3.keep (hc4.block g hb3.lt fun h => h)
    have hkw4 : KW 5 66 w te (if u = z16 then [] else [0]) w4 d3 (enc ver true schK v5) := ⟨hg3.later hc4, hte, fun k hk hd => by have := hnew k hk; have := hg3.own.lt hd; omega⟩
    generalize hkeys : (if u = z16 then [] else [0]) = keys at hte hkw4
    obtain ⟨at_, ct, rfl, hkat⟩ := hte.form
    have hkl : keys.length ≤ 1 := by rw [← hkeys]; split <;> simp
    have hcw4 : Ch (fun _ => False) w w4 := (hg3.new_ch).trans' hc4
    have hrt4 := hrt.keepMono (w' := w4) (S' := fun k => k < w4.heap.size) (fun k hk => hcw4.block k hk fun h => h) (fun k hk => Nat.lt_of_lt_of_le hk hcw4.size)
    have htags : Is w4 (fun k => k < w4.heap.size) g 22 .tags (.tags t) := ⟨[c], hrt4, fun j x hj => by
      cases j with
      | zero => simp only [List.getElem?_cons_zero, Option.some.injEq] at hj; subst hj; rw [Nat.add_zero, hb4.cell]; exact end_get (by rw [h5, hu0])
      | succ j => simp at hj⟩
    have hcnt : encU (u, t) = uvar (word (keys.length + t.length)) ++ (keys.flatMap (fun _ => encTag (0, u)) ++ encEach t) := by
      unfold encU
      rw [← hkeys]
      split <;> simp
    rw [hcnt] at hl ⊢
    simp only [List.length_append] at hl
    have hl : (enc ver true schK v5).length + ((uvar (word (keys.length + t.length))).length + ((keys.flatMap (fun _ => encTag (0, u))).length + (encEach t).length)) ≤ Lim := hl
    refine CWL.reg (ops := [(.call ⟨.builtin .len, #[.tmp 26], #[65]⟩, 3), (.nilCheck (.tmp 0), 0), (.fieldAddr 46 (.tmp 3) 7, 0), (.call ⟨.value (.func 30), #[.tmp 5], #[44]⟩, 3), (.binOp .add 3 (.tmp 1) (.tmp 7) 3, 3), (.convert 3 66 (.tmp 9), 66), (.call ⟨.value (.func 29), #[.tmp 2, .tmp 11], #[22, 66]⟩, 22)]) (b := [(1, 13), (98, 13), (97, 11), (96, 9), (95, 7), (94, 5), (93, 3), (92, 0), (91, 1), (90, 26), (89, 2)]) (by kernel_rfl) ?_
    refine OpK.len (e := 66) (by kernel_rfl) rfl ?_
    refine OpK.nilCheck rfl ?_
    refine OpK.fieldAddr (off := 22) (by kernel_rfl) rfl ?_
    refine OpK.asCall rfl calTl rfl (((hsnd.ok 30 .tlen (by kernel_rfl)).2 w4 _ g 22 (.tags t) (.inl rfl) htags).mono ?_)
    rintro en w5 ⟨he5, hw5⟩
    rw [hw5]
    refine ⟨_, he5, ?_⟩
    refine OpK.arith rfl rfl rfl ?_
    refine OpK.convInt (k := .i64) (k' := .u32) (by kernel_rfl) (by kernel_rfl) rfl ?_
    rw [show (IntKind.u32.wrap (IntKind.i64.wrap ((keys.length : Int) + ((V.tags t).tagsOf.length : Int)))) = ((word (keys.length + t.length) : Nat) : Int) from count_word _ _]
    refine OpK.asCall rfl calUv rfl (((hsnd.ok 29 .uv (by kernel_rfl)).2 w4 (word (keys.length + t.length)) d3 _ (word_lt _) hkw4.grew.own (by omega)).mono ?_)
    rintro en w5 ⟨d5, he5, hg5⟩
    refine ⟨_, he5, ?_⟩
    show CWL _ _ _ _ _ _
    have hkw5 := hkw4.more hg5
    refine CWL.reg (ops := [(.call ⟨.builtin .len, #[.tmp 26], #[65]⟩, 3), (.move (.const (Go.Value.int Go.IntKind.i64 0)), 3)]) (b := [(101, 3), (100, 1), (99, 26)]) (by kernel_rfl) ?_
    refine OpK.len (e := 66) (by kernel_rfl) rfl ?_
    refine OpK.move ?_
    show CWL _ _ _ _ _ _
    refine CWL.cons (CW.block (CW.loop (fun m σ wl => ∃ i d, m + i = keys.length ∧ σ 0 = .pointer (some ⟨g, 0, none⟩) ∧ σ 1 = d ∧ σ 99 = .slice at_ keys.length ct ∧ σ 100 = .int .i64 (keys.length : Int) ∧ σ 101 = .int .i64 (i : Int) ∧
      KW 5 66 w (.slice at_ keys.length ct) keys wl d (enc ver true schK v5 ++ uvar (word (keys.length + t.length)) ++ (keys.take i).flatMap (fun _ => encTag (0, u)))) keys.length
      ⟨0, d5, by simp, rfl, rfl, rfl, rfl, rfl, by simpa using hkw5⟩ ?_))
    rintro m σ wl ⟨i, d, hm, q0, q1, q99, q100, q101, hkw⟩
    refine CW.pin [(0, .pointer (some ⟨g, 0, none⟩)), (1, d), (99, .slice at_ keys.length ct), (100, .int .i64 (keys.length : Int)), (101, .int .i64 (i : Int))] (all_pin q0 (all_pin q1 (all_pin q99 (all_pin q100 (all_pin q101 (fun _ h => by cases h)))))) fun σ => ?_
    simp only [flat, List.cons_append, List.nil_append, List.append_nil]
    have hcwl := hkw.grew.new_ch
    have hbl := hb.keep (hcwl.block g hb.lt fun h => h)
    refine CWL.reg (ops := [(.binOp .lss 3 (.tmp 202) (.tmp 200) 3, 0)]) (b := [(102, 1)]) (by kernel_rfl) ?_
    refine OpK.cmp rfl rfl rfl ?_
    show CWL _ _ _ _ _ _
    by_cases hlt : i < keys.length
    · refine CWL.condT (congrArg Value.bool (decide_eq_true (by omega))) ?_
      simp only [flat, List.cons_append, List.nil_append, List.append_nil]
      refine CWL.block ?_
      simp only [flat, List.cons_append, List.nil_append, List.append_nil]
      have hne : u ≠ z16 := by
        intro e
        rw [if_pos e] at hkeys
        rw [← hkeys] at hlt
        simp at hlt
      rw [if_neg hne] at hkeys
      subst hkeys
      have hi0 : i = 0 := by simp only [List.length_cons, List.length_nil] at hlt; omega
      subst hi0
      obtain ⟨a1, c1, hsl, hkat1⟩ := hkw.keys.form
      cases hsl
      obtain ⟨a', rfl, hcell⟩ := hkat1 0 0 rfl
      simp only [List.take_zero, List.flatMap_nil, List.append_nil] at hkw
      have hl16 : (encTag (0, u)).length = 18 := by
        simp only [encTag, List.length_append, hul]
        rw [uvar_len (by omega), uvar_len (by unfold word; omega)]
        decide
      have hlim : (enc ver true schK v5 ++ uvar (word ([0].length + t.length))).length + 18 ≤ Lim := by
        rw [List.length_append]
        simp only [List.flatMap_cons, List.flatMap_nil, List.append_nil, hl16] at hl
        omega
      have hu1 : (uvar 0).length = 1 ∧ (uvar 16).length = 1 := by decide +kernel
      refine CWL.reg (ops := [(.indexAddr 65 (.tmp 198) (.tmp 202), 0), (.load 66 (.tmp 1), 66)]) (b := [(15, 3), (104, 3), (103, 1)]) (by kernel_rfl) ?_
      refine OpK.indexAddr (s := 1) (j := 0) (by kernel_rfl) rfl rfl (by simp) ?_
      refine OpK.load (by kernel_rfl) rfl (hcell) ?_
      show CWL _ _ _ _ _ _
      refine CWL.reg (ops := []) (b := [(105, 30)]) (by kernel_rfl) ?_
      show CWL _ _ _ _ _ _
      refine CWL.block ?_
      simp only [flat, List.cons_append, List.nil_append, List.append_nil]
      refine CWL.reg (ops := [(.binOp .eql 66 (.tmp 210) (.const (Go.Value.int Go.IntKind.u32 0)) 66, 4)]) (b := [(106, 1), (107, 1)]) (by kernel_rfl) ?_
      refine OpK.cmp rfl rfl rfl ?_
      show CWL _ _ _ _ _ _
      refine CWL.condT rfl ?_
      simp only [flat, List.cons_append, List.nil_append, List.append_nil]
      refine CWL.reg (ops := [(.nilCheck (.tmp 0), 0), (.fieldAddr 46 (.tmp 1) 6, 0), (.load 41 (.tmp 3), 41), (.alloc 41, 0), (.store 41 (.tmp 7) (.tmp 5), 0)]) (b := [(16, 7), (111, 5), (110, 3), (109, 1), (108, 0)]) (by kernel_rfl) ?_
      refine OpK.nilCheck rfl ?_
      refine OpK.fieldAddr (off := 6) (by kernel_rfl) rfl ?_
      refine OpK.loadA (n := 16) aggUu rfl (mid_at hbl h5) hu0 ?_
      refine OpK.allocZ (List.replicate 16 (.int .u8 0)) zeroUu fun w6 q6 hb6 hc6 hq6 hs6 => ?_
      refine OpK.storeG (cs := List.replicate 16 (.int .u8 0)) (us := u.map bv) (by rw [hu0]; exact sizeUu) rfl rfl (bv_one u) hb6 (by simp [hul]) fun w7 hb7 hc7 hs7 => ?_
      show CWL _ _ _ _ _ _
      have hc67 : Ch (fun _ => False) wl w7 := hc6.trans hc7 fun k hk e => by omega
      have hkw7 := hkw.calm hc67
      refine CWL.reg (ops := [(.call ⟨.value (.func 29), #[.tmp 2, .const (Go.Value.int Go.IntKind.u32 0)], #[22, 66]⟩, 22)]) (b := [(1, 1), (113, 1), (112, 2)]) (by kernel_rfl) ?_
      refine OpK.asCall rfl calUv rfl (((hsnd.ok 29 .uv (by kernel_rfl)).2 w7 0 d _ (by omega) hkw7.grew.own (by omega)).mono ?_)
      rintro en w8 ⟨d8, he8, hg8⟩
      refine ⟨_, he8, ?_⟩
      show CWL _ _ _ _ _ _
      have hkw8 := hkw7.more hg8
      refine CWL.reg (ops := [(.call ⟨.value (.func 29), #[.tmp 2, .const (Go.Value.int Go.IntKind.u32 16)], #[22, 66]⟩, 22)]) (b := [(1, 1), (115, 1), (114, 2)]) (by kernel_rfl) ?_
      refine OpK.asCall rfl calUv rfl (((hsnd.ok 29 .uv (by kernel_rfl)).2 w8 16 d8 _ (by omega) hkw8.grew.own (by rw [List.length_append]; omega)).mono ?_)
      rintro en w9 ⟨d9, he9, hg9⟩
      refine ⟨_, he9, ?_⟩
      show CWL _ _ _ _ _ _
      have hkw9 := hkw8.more hg9
      have hq8 : w8.heap[q6]? = w7.heap[q6]? := hg8.keep hb7.lt fun h => by have := hkw7.grew.own.lt h; have := hkw.grew.own.lt h; omega
      have hb8 := hb7.keep hq8
      have hq9 : w9.heap[q6]? = w8.heap[q6]? := hg9.keep hb8.lt fun h => by
        rcases hg8.blk q6 h with h1 | h1
        · have := hkw.grew.own.lt h1; omega
        · have := hb7.lt; omega
      have hb9 := hb8.keep hq9
      refine CWL.reg (ops := [(.load 41 (.tmp 32), 41), (.call ⟨.value (.func 31), #[.tmp 2, .tmp 1], #[22, 41]⟩, 22)]) (b := [(1, 3), (118, 3), (117, 1), (116, 2)]) (by kernel_rfl) ?_
      refine OpK.loadA (n := 16) aggUu rfl hb9.ata hu0 ?_
      refine OpK.asCall rfl calAu rfl (((hsnd.ok 31 (.val false .uuid) (by kernel_rfl)).2 w9 (fun _ => False) (.u u) (u.map bv) d9 _ ⟨hul, rfl⟩ hkw9.grew.own (fun k h => h.elim) (by rw [List.length_append, List.length_append]; show _ + u.length ≤ _; omega)).mono ?_)
      rintro en w10 ⟨d10, he10, hg10⟩
      refine ⟨_, he10, ?_⟩
      show CWL _ _ _ _ _ _
      have hkw10 := hkw9.more hg10
      show CWL _ _ _ _ _ _
      try refine CWL.nil_ (P := Tryd.prog) (n := 0) ?_
      show CWL _ _ _ _ _ _
      refine CWL.reg (ops := [(.binOp .add 3 (.tmp 202) (.const (Go.Value.int Go.IntKind.i64 1)) 3, 3)]) (b := [(101, 1), (119, 1)]) (by kernel_rfl) ?_
      refine OpK.arith rfl rfl rfl ?_
      show CWL _ _ _ _ _ _
      try refine CWL.nil_ (P := Tryd.prog) (n := 0) ?_
      refine ⟨m - 1, by omega, 1, d10, by simp only [List.length_cons, List.length_nil] at hm ⊢; omega, rfl, rfl, rfl, rfl, rfl, ?_⟩
      have hE : [0].flatMap (fun _ => encTag (0, u)) = uvar 0 ++ (uvar 16 ++ u) := by
        simp only [List.flatMap_cons, List.flatMap_nil, List.append_nil, encTag, hul, List.append_assoc]
        rfl
      rw [show List.take 1 [0] = [0] from rfl, hE]
      simp only [List.append_assoc] at hkw10 ⊢
      exact hkw10
    · refine CWL.condF (congrArg Value.bool (decide_eq_false (by omega))) ?_
      simp only [flat, List.cons_append, List.nil_append, List.append_nil]
      refine CWL.cons (CW.exit ?_)
      show CWL _ _ _ _ _ _
      rw [List.take_of_length_le (by omega)] at hkw
      have hrtl := hrt.keepMono (w' := wl) (S' := fun k => k < w.heap.size) (fun k hk => hcwl.block k hk fun h => h) (fun k hk => hk)
      have htagl : Is wl (fun k => k < w.heap.size) g 22 .tags (.tags t) := ⟨[c], hrtl, fun j x hj => by
        cases j with
        | zero => simp only [List.getElem?_cons_zero, Option.some.injEq] at hj; subst hj; rw [Nat.add_zero, hbl.cell]; exact end_get (by rw [h5, hu0])
        | succ j => simp at hj⟩
      refine CWL.reg (ops := [(.nilCheck (.tmp 0), 0), (.fieldAddr 46 (.tmp 1) 7, 0), (.call ⟨.value (.func 32), #[.tmp 3, .tmp 2], #[44, 22]⟩, 22)]) (b := [(1, 5), (124, 5), (123, 2), (122, 3), (121, 1), (120, 0)]) (by kernel_rfl) ?_
      refine OpK.nilCheck rfl ?_
      refine OpK.fieldAddr (off := 22) (by kernel_rfl) rfl ?_
      refine OpK.asCall rfl calTe rfl (((hsnd.ok 32 .teach (by kernel_rfl)).2 wl (fun k => k < w.heap.size) g 22 (.tags t) d _ (.inl rfl) htagl hb.lt hkw.grew.own (fun k hk => ⟨by have := hcwl.size; omega, fun h => by rcases hkw.grew.blk k h with h1 | h1; (cases h1); omega⟩) (by simp only [List.length_append]; show _ + (encEach t).length ≤ _; omega)).mono ?_)
      rintro en w6 ⟨d6, he6, hg6⟩
      refine ⟨_, he6, ?_⟩
      show CWL _ _ _ _ _ _
      show CWL _ _ _ _ _ _
      refine CWL.reg (ops := []) (b := [(4, 2), (125, 2)]) (by kernel_rfl) ?_
      show CWL _ _ _ _ _ _
      refine CWL.ret ?_
      refine ⟨_, rfl, ?_⟩
      have := hkw.grew.trans hg6
      simp only [List.append_assoc] at this ⊢
      exact this

/-! ### It is read and written -/
theorem callRf : Callable Tryd.prog 13 := ⟨Tryd.f13, Tryd.func13, by kernel_rfl, by kernel_rfl⟩
theorem callRd : Callable Tryd.prog 23 := ⟨Tryd.f23, Tryd.func23, by kernel_rfl, by kernel_rfl⟩
theorem rfIs {w : World} {S : Nat → Prop} {g : Nat} {src : Value} {l : List UInt8} {tE : TypeId} {vE : Value} (hb : Blk w g 46 (zeroC T))
    (herr : w.cell? ⟨1, 0, none⟩ = some (.iface tE vE)) (hgE : 1 < w.heap.size ∧ 1 ≠ g) (hsrc : SrcIs w S l src) (hS : ∀ k, S k → k < w.heap.size ∧ k ≠ g) :
    Calls Tryd.prog 13 #[.pointer (some ⟨g, 0, none⟩), src] w fun en w' => ∃ x, en = .returned x ∧ Reads (.iface tE vE) g (readKU 4 sch V0 l) w x w' := by
  refine Calls.of_CW Tryd.func13 rfl (by decide +kernel) (Nat.le_of_ble_eq_true (by kernel_rfl)) (CW.of_flat ?_)
  simp only [flat, List.cons_append, List.nil_append, List.append_nil]
  refine CWL.reg (ops := [(.assign (.const (Go.Value.nilIface)), 49)]) (b := [(4, 1)]) (by kernel_rfl) ?_
  refine OpK.assign ?_
  show CWL _ _ _ _ _ _
  refine CWL.reg (ops := [(.call ⟨.value (.func 23), #[.tmp 0, .tmp 2, .const (Go.Value.bool false)], #[59, 22, 4]⟩, 49)]) (b := [(4, 1), (7, 1), (6, 2), (5, 0)]) (by kernel_rfl) ?_
  refine OpK.asCall rfl callRd rfl ((readIs hb herr hgE hsrc hS).mono ?_)
  rintro en w1 ⟨x, he, hx⟩
  refine ⟨_, he, ?_⟩
  show CWL _ _ _ _ _ _
  refine CWL.ret ?_
  exact ⟨_, rfl, hx⟩
theorem callAt : Callable Tryd.prog 14 := ⟨Tryd.f14, Tryd.func14, by kernel_rfl, by kernel_rfl⟩
theorem callAg : Callable Tryd.prog 5 := ⟨Tryd.f5, Tryd.func5, by kernel_rfl, by kernel_rfl⟩
theorem und8 : Tryd.prog.underlying 22 = some (.slice 5) := by kernel_rfl
theorem isU8 : U8 Tryd.prog 5 := by unfold U8; kernel_rfl
theorem keyK : sch.keys.contains 0 = false := by decide
theorem nilOf {o : Option ((V × UT) × List UInt8)} {x : Value} {w' : World} {g : Nat} {tE : TypeId} {vE : Value} (hx : match o with
  | some y => x = .nilIface ∧ Lies w' (fun k => k < w'.heap.size ∧ k ≠ g) g y.1
  | none => x = .iface tE vE) : (x = .nilIface ∧ o.isNone = false) ∨ ((∃ t y, x = .iface t y) ∧ o.isNone = true) := by
  cases o with
  | none => exact .inr ⟨⟨tE, vE, hx⟩, rfl⟩
  | some y => exact .inl ⟨hx.1, rfl⟩
theorem Lies.mono {w : World} {S S' : Nat → Prop} {g : Nat} {v : V × UT} (h : Lies w S g v) (hs : ∀ k, S k → S' k) : Lies w S' g v := by
  obtain ⟨c5, c, h1, h2, h3, h4, h5⟩ := h
  exact ⟨c5, c, h1, h2, h3, h4.mono hs, h5.mono hs⟩
/-- What such a reading and writing answers. -/
def AgKU (w' : World) (l : List UInt8) (x : Value) : Prop :=
  match readKU 4 sch V0 l with
  | none => x = .tuple #[.slice none 0 0, .bool false]
  | some y => ∃ ver d, y.1.1.fld 0 = .i ver ∧ x = .tuple #[d, .bool true] ∧ OctIs w' (fun k => k < w'.heap.size) (encKU ver 4 sch y.1) d
set_option maxHeartbeats 8000000 in
theorem agIs (hsort : SortIs Tryd.prog 79 80 65 66) {w : World} {src : Value} {l : List UInt8} {tE : TypeId} {vE : Value} (herr : w.cell? ⟨1, 0, none⟩ = some (.iface tE vE)) (hgE : 1 < w.heap.size) (hsrc : OctIs w (fun k => k < w.heap.size) l src) (hl : l.length ≤ 65536) :
    Calls Tryd.prog 5 #[src] w fun en w' => ∃ x, en = .returned x ∧ Ch (fun _ => False) w w' ∧ AgKU w' l x := by
  refine Calls.of_CW Tryd.func5 rfl (by decide +kernel) (Nat.le_of_ble_eq_true (by kernel_rfl)) (CW.of_flat ?_)
  simp only [flat, List.cons_append, List.nil_append, List.append_nil]
  obtain ⟨ms, hms⟩ := isIface_spec ifaceErr
  obtain ⟨a0, c0, rfl, hc0, hn0, ho0, hs0⟩ := hsrc.form
  refine CWL.reg (ops := [(.assign (.const (Go.Value.slice none 0 0)), 22), (.assign (.const (Go.Value.bool false)), 4)]) (b := [(3, 3), (2, 1)]) (by kernel_rfl) ?_
  refine OpK.assign ?_
  refine OpK.assign ?_
  show CWL _ _ _ _ _ _
  refine CWL.reg (ops := [(.call ⟨.value (.func 12), #[], #[]⟩, 46), (.alloc 46, 0), (.store 46 (.tmp 3) (.tmp 1), 0)]) (b := [(4, 3), (5, 1)]) (by kernel_rfl) ?_
  refine OpK.asCall rfl calN rfl ((newIs w).mono ?_)
  rintro en w1 ⟨v, he, rfl, hc1⟩
  refine ⟨_, he, ?_⟩
  refine OpK.allocZ (zeroC T) zeroOk fun w2 g hb2 hc2 hg2 hs2 => ?_
  refine OpK.storeG (cs := zeroC T) (us := zeroC T) sizeOk rfl rfl zeroOne hb2 rfl fun w3 hb3 hc3 hs3 => ?_
  show CWL _ _ _ _ _ _
  have hs1 := hc1.size
  have hc03 : Ch (fun _ => False) w w3 := (hc1.trans' hc2).trans hc3 fun k hk e => by omega
  have hsrc3 : ∀ a', a0 = some a' → Oct w3 a' l := fun a' e => (ho0 a' e).keep (hc03.block _ (hs0 a' e) fun h => h)
  obtain ⟨d4, w4, hr4, hg4⟩ := run_append_oct (P := Tryd.prog) (ty := 22) (t := 22) isU8 und8 (Own.nil _ w3) (a := a0) (l := l) (c := c0) hn0 hsrc3 (by simp only [List.length_nil, Lim]; omega)
  rw [List.nil_append] at hg4
  have hc4 := hg4.new_ch
  have hb4 := hb3.keep (hc4.block g hb3.lt fun h => h)
  have hc04 := hc03.trans' hc4
  have herr4 : w4.cell? ⟨1, 0, none⟩ = some (.iface tE vE) := (ch_cell hc04 (a := ⟨1, 0, none⟩) hgE (fun h => h) rfl).trans herr
  have hgw : w.heap.size ≤ g := by omega
  refine CWL.reg (ops := [(.call ⟨.builtin .append, #[.const (Go.Value.slice none 0 0), .tmp 0], #[22, 22]⟩, 22), (.call ⟨.value (.func 13), #[.tmp 8, .tmp 1], #[46, 22]⟩, 49), (.binOp .neq 49 (.tmp 3) (.const (Go.Value.nilIface)) 49, 4)]) (b := [(9, 5), (8, 3), (7, 1), (6, 0)]) (by kernel_rfl) ?_
  refine OpK.run rfl hr4 ?_
  refine OpK.asCall rfl callRf rfl ((rfIs (S := fun k => d4.ownBlock = some k) hb4 herr4 ⟨Nat.lt_of_lt_of_le hgE hc04.size, by omega⟩ (hg4.own.srcO (by omega)) (fun k hk => ⟨hg4.own.lt hk, fun e => by rcases hg4.blk k hk with h1 | h1; (cases h1); (have := hb3.lt; omega)⟩)).mono ?_)
  rintro en w5 ⟨x5, he5, hc5, hx5⟩
  refine ⟨_, he5, ?_⟩
  refine OpK.cmpNil (v := x5) (b := (readKU 4 sch V0 l).isNone) hms rfl rfl (nilOf hx5) ?_
  show CWL _ _ _ _ _ _
  have hc05 : Ch (fun _ => False) w w5 := hc04.trans hc5 fun k hk e => by omega
  unfold AgKU
  cases hd : readKU 4 sch V0 l with
  | none =>
    refine CWL.condT rfl ?_
    simp only [flat, List.cons_append, List.nil_append, List.append_nil]
    refine CWL.reg (ops := [(.assign (.const (Go.Value.slice none 0 0)), 22), (.assign (.const (Go.Value.bool false)), 4)]) (b := [(3, 3), (2, 1)]) (by kernel_rfl) ?_
    refine OpK.assign ?_
    refine OpK.assign ?_
    show CWL _ _ _ _ _ _
    refine CWL.ret ?_
    exact ⟨_, rfl, hc05, rfl⟩
  | some y =>
    rw [hd] at hx5
    obtain ⟨_, hlies⟩ := hx5
    obtain ⟨v, rest⟩ := y
    obtain ⟨ver, hv0, _, _, hlen, _⟩ := backKU hd (by omega) okK startK keyK verK
    refine CWL.condF rfl ?_
    simp only [flat, List.cons_append, List.nil_append, List.append_nil]
    refine CWL.reg (ops := [(.call ⟨.value (.func 14), #[.tmp 8, .const (Go.Value.slice none 0 0)], #[46, 22]⟩, 22), (.assign (.const (Go.Value.bool true)), 4)]) (b := [(3, 3), (2, 1), (10, 1)]) (by kernel_rfl) ?_
    refine OpK.asCall rfl callAt rfl ((writeIs hsort (g := g) (v := v) (ver := ver) (hlies.mono fun k hk => hk.1) hv0 (by simp only [Lim]; omega)).mono ?_)
    rintro en w6 ⟨d6, he6, hg6⟩
    refine ⟨_, he6, ?_⟩
    refine OpK.assign ?_
    show CWL _ _ _ _ _ _
    refine CWL.ret ?_
    exact ⟨_, rfl, hc05.trans' hg6.new_ch, ver, _, hv0, rfl, hg6.own.oct.mono2 fun k hk => hg6.own.lt hk⟩

/-! ### The law -/
theorem callKept : Callable Tryd.prog 6 := ⟨Tryd.f6, Tryd.func6, by kernel_rfl, by kernel_rfl⟩
theorem mixedO : Tryd.prog.follows .mixedOrders = true := by kernel_rfl
def treeA : AV := .agg [.lit (.int .i64 0), .lit (.slice none 0 0), .lit (.bool false), .lit (.slice none 0 0), .lit (.slice none 0 0)]
noncomputable def M1 : Option (AV × AH) := acall Tryd.prog 60 7 [] ⟨0, []⟩
noncomputable def M2 : Option (AV × AH) := M1.bind fun x => acall Tryd.prog 60 6 [x.1, .c (.lit (.int .i64 0)), treeA] x.2
def zeros20 : List UInt8 := List.replicate 20 0
theorem hM2 : (M2.bind fun y => rdOct y.2 y.1) = some zeros20 := by kernel_rfl
theorem canRead : (readKU 4 sch V0 zeros20).isSome = true := by decide +kernel
set_option maxHeartbeats 8000000 in
theorem law (hsort : SortIs Tryd.prog 79 80 65 66) {w : World} {src : Value} {l : List UInt8} {tE : TypeId} {vE : Value} (hsrc : OctIs w (fun k => k < w.heap.size) l src) (herr : w.cell? ⟨1, 0, none⟩ = some (.iface tE vE)) (hgE : 1 < w.heap.size) :
    Calls Tryd.prog 3 #[src] w fun en w' => ∃ x, en = .returned x ∧ x = .bool true ∧ Ch (fun _ => False) w w' := by
  refine Calls.of_CW Tryd.func3 rfl (by decide +kernel) (Nat.le_of_ble_eq_true (by kernel_rfl)) (CW.of_flat ?_)
  simp only [flat, List.cons_append, List.nil_append, List.append_nil]
  have hsrc0 := hsrc
  obtain ⟨a0, c0, rfl, hc0, hn0, ho0, hs0⟩ := hsrc.form
  refine CWL.reg (ops := [(.assign (.const (Go.Value.bool false)), 4)]) (b := [(2, 1)]) (by kernel_rfl) ?_
  refine OpK.assign ?_
  show CWL _ _ _ _ _ _
  refine CWL.reg (ops := [(.call ⟨.builtin .len, #[.tmp 0], #[22]⟩, 3), (.binOp .gtr 3 (.tmp 1) (.const (Go.Value.int Go.IntKind.i64 2147483647)) 3, 4)]) (b := [(11, 3), (10, 1), (9, 0)]) (by kernel_rfl) ?_
  refine OpK.len (e := 5) (by kernel_rfl) rfl ?_
  refine OpK.cmp rfl rfl rfl ?_
  show CWL _ _ _ _ _ _
  by_cases hbig : (l.length : Int) > 2147483647
  · refine CWL.condT (congrArg Value.bool (decide_eq_true hbig)) ?_
    simp only [flat, List.cons_append, List.nil_append, List.append_nil]
    refine CWL.reg (ops := [(.assign (.const (Go.Value.bool true)), 4)]) (b := [(2, 1)]) (by kernel_rfl) ?_
    refine OpK.assign ?_
    show CWL _ _ _ _ _ _
    refine CWL.ret ?_
    exact ⟨_, rfl, rfl, Ch.refl _ _⟩
  refine CWL.condF (congrArg Value.bool (decide_eq_false hbig)) ?_
  simp only [flat, List.cons_append, List.nil_append, List.append_nil]
  refine CWL.reg (ops := [(.call ⟨.builtin .len, #[.tmp 0], #[22]⟩, 3), (.binOp .gtr 3 (.tmp 1) (.const (Go.Value.int Go.IntKind.i64 1000)) 3, 4)]) (b := [(14, 3), (13, 1), (12, 0)]) (by kernel_rfl) ?_
  refine OpK.len (e := 5) (by kernel_rfl) rfl ?_
  refine OpK.cmp rfl rfl rfl ?_
  show CWL _ _ _ _ _ _
  by_cases h1000 : (l.length : Int) > 1000
  · refine CWL.condT (congrArg Value.bool (decide_eq_true h1000)) ?_
    simp only [flat, List.cons_append, List.nil_append, List.append_nil]
    refine CWL.reg (ops := [(.assign (.const (Go.Value.bool true)), 4)]) (b := [(2, 1)]) (by kernel_rfl) ?_
    refine OpK.assign ?_
    show CWL _ _ _ _ _ _
    refine CWL.ret ?_
    exact ⟨_, rfl, rfl, Ch.refl _ _⟩
  refine CWL.condF (congrArg Value.bool (decide_eq_false h1000)) ?_
  simp only [flat, List.cons_append, List.nil_append, List.append_nil]
  -- the reference's own octets
  obtain ⟨⟨r2, h2⟩, hm2, hoct2⟩ := Option.bind_eq_some_iff.1 hM2
  unfold M2 at hm2
  obtain ⟨⟨r1, h1⟩, hm1, hm12⟩ := Option.bind_eq_some_iff.1 hm2
  obtain ⟨hcal1, hk1⟩ := acall_sound mixedO 60 7 _ _ _ _ hm1
  obtain ⟨hcal2, hk2⟩ := acall_sound mixedO 60 6 _ _ _ _ hm12
  refine CWL.reg (ops := [(.call ⟨.value (.func 7), #[], #[]⟩, 28), (.build 33 #[], 33), (.call ⟨.value (.func 6), #[.tmp 1, .const (Go.Value.int Go.IntKind.i64 0), .tmp 3], #[28, 3, 33]⟩, 22), (.call ⟨.value (.func 5), #[.tmp 5], #[22]⟩, 23), (.extract (.tmp 7) 0, 22), (.extract (.tmp 7) 1, 4)]) (b := [(4, 11), (3, 9), (21, 11), (20, 9), (15, 7), (19, 7), (18, 5), (17, 3), (16, 1)]) (by kernel_rfl) ?_
  refine OpK.asCall rfl hcal1 rfl ((hk1 w w [] [] (Hp.start w) .nil).mono ?_)
  rintro en w1 ⟨u1, he, E1, hE1, hv1, k1⟩
  refine ⟨_, he, ?_⟩
  refine OpK.build (cells := #[.int .i64 0, .slice none 0 0, .bool false, .slice none 0 0, .slice none 0 0]) (by kernel_rfl) ?_
  refine OpK.asCall rfl hcal2 rfl ((hk2 w w1 E1 [u1, .int .i64 0, .agg #[.int .i64 0, .slice none 0 0, .bool false, .slice none 0 0, .slice none 0 0]] k1 (.cons hv1 (.cons rfl (.cons ⟨_, .cons rfl (.cons rfl (.cons rfl (.cons rfl (.cons rfl .nil)))), rfl⟩ .nil)))).mono ?_)
  rintro en w2 ⟨u2, he, E2, hE2, hv2, k2⟩
  have hc02 : Ch (fun _ => False) w w2 := ⟨k2.os, k2.tape, k2.output, k2.size, fun k hk _ => k2.old k hk⟩
  have herr2 : w2.cell? ⟨1, 0, none⟩ = some (.iface tE vE) := (ch_cell hc02 (a := ⟨1, 0, none⟩) hgE (fun h => h) rfl).trans herr
  have ho2 : OctIs w2 (fun k => k < w2.heap.size) zeros20 u2 := (rdOct_sound k2.rd hv2 hoct2).mono2 fun k ⟨i, b, p, hb, hp, hk⟩ => by rw [← hk]; exact (k2.low i b p hb hp).2
  refine ⟨_, he, ?_⟩
  refine OpK.asCall rfl callAg rfl ((agIs hsort herr2 (Nat.lt_of_lt_of_le hgE hc02.size) ho2 (by decide)).mono ?_)
  rintro en w3 ⟨x3, he, hc3, hx3⟩
  obtain ⟨y3, hy3⟩ := Option.isSome_iff_exists.1 canRead
  unfold AgKU at hx3
  rw [hy3] at hx3
  obtain ⟨ver3, d3, _, rfl, _⟩ := hx3
  refine ⟨_, he, ?_⟩
  refine OpK.extract rfl rfl ?_
  refine OpK.extract rfl rfl ?_
  show CWL _ _ _ _ _ _
  have hc03 := hc02.trans' hc3
  have herr3 : w3.cell? ⟨1, 0, none⟩ = some (.iface tE vE) := (ch_cell hc03 (a := ⟨1, 0, none⟩) hgE (fun h => h) rfl).trans herr
  have hsrc3 : OctIs w3 (fun k => k < w3.heap.size) l (.slice a0 l.length c0) := (hsrc0.keep fun k hk => hc03.block k hk fun h => h).mono2 fun k hk => Nat.lt_of_lt_of_le hk hc03.size
  refine CWL.pin [(0, .slice a0 l.length c0), (4, .bool true)] (all_pinF rfl (all_pinF rfl (fun _ h => by cases h))) fun σ => ?_
  refine CWL.reg (ops := [(.call ⟨.value (.func 5), #[.tmp 0], #[22]⟩, 23), (.extract (.tmp 1) 0, 22), (.extract (.tmp 1) 1, 4)]) (b := [(6, 5), (5, 3), (26, 5), (25, 3), (22, 1), (24, 1), (23, 0)]) (by kernel_rfl) ?_
  refine OpK.asCall rfl callAg rfl ((agIs hsort herr3 (Nat.lt_of_lt_of_le hgE hc03.size) hsrc3 (by omega)).mono ?_)
  rintro en w4 ⟨x4, he, hc4, hx4⟩
  refine ⟨_, he, ?_⟩
  skip
  obtain ⟨d4, b4, rfl, hb4⟩ : ∃ d b, x4 = .tuple #[d, .bool b] ∧ ((b = false ∧ readKU 4 sch V0 l = none) ∨ (b = true ∧ ∃ y ver, readKU 4 sch V0 l = some y ∧ y.1.1.fld 0 = .i ver ∧ OctIs w4 (fun k => k < w4.heap.size) (encKU ver 4 sch y.1) d)) := by
    unfold AgKU at hx4
    cases hd : readKU 4 sch V0 l with
    | none => rw [hd] at hx4; exact ⟨_, _, hx4, .inl ⟨rfl, rfl⟩⟩
    | some y => rw [hd] at hx4; obtain ⟨ver, d, h1, h2, h3⟩ := hx4; exact ⟨d, true, h2, .inr ⟨rfl, y, ver, rfl, h1, h3⟩⟩
  refine OpK.extract rfl rfl ?_
  refine OpK.extract rfl rfl ?_
  show CWL _ _ _ _ _ _
  have hc04 := hc03.trans' hc4
  refine CWL.pin [(4, .bool true), (5, d4), (6, .bool b4)] (all_pinF rfl (all_pinF rfl (all_pinF rfl (fun _ h => by cases h)))) fun σ => ?_
  cases b4 with
  | false =>
    refine CWL.cons (CW.region ?_)
    refine RW.want rfl ?_
    refine OpK.move ?_
    refine RW.want rfl ?_
    refine OpK.not rfl ?_
    refine RW.want rfl ?_
    refine OpK.move ?_
    refine RW.want rfl ?_
    refine OpK.move ?_
    refine RW.want rfl ?_
    refine OpK.not rfl ?_
    refine RW.want rfl ?_
    refine OpK.pick rfl ?_
    refine RW.z ?_
    show CWL _ _ _ _ _ _
    refine CWL.condT rfl ?_
    simp only [flat, List.cons_append, List.nil_append, List.append_nil]
    refine CWL.reg (ops := []) (b := [(2, 8), (33, 8)]) (by kernel_rfl) ?_
    show CWL _ _ _ _ _ _
    refine CWL.ret ?_
    exact ⟨_, rfl, rfl, hc04⟩
  | true =>
    obtain ⟨y, ver, hy, hyv, hoct4⟩ := (hb4.resolve_left fun h => by cases h.1).2
    obtain ⟨v, rest⟩ := y
    obtain ⟨ver', hv0, _, _, hlen, v', hrd', hv0', henc'⟩ := backKU hy (by omega) okK startK keyK verK
    have hvv : ver' = ver := by rw [hyv] at hv0; cases hv0; rfl
    subst hvv
    have herr4 : w4.cell? ⟨1, 0, none⟩ = some (.iface tE vE) := (ch_cell hc04 (a := ⟨1, 0, none⟩) hgE (fun h => h) rfl).trans herr
    refine CWL.cons (CW.region ?_)
    refine RW.want rfl ?_
    refine OpK.move ?_
    refine RW.want rfl ?_
    refine OpK.not rfl ?_
    refine RW.want rfl ?_
    refine OpK.move ?_
    refine RW.want rfl ?_
    refine OpK.move ?_
    refine RW.want rfl ?_
    refine OpK.not rfl ?_
    refine RW.want rfl ?_
    refine OpK.pick rfl ?_
    refine RW.z ?_
    show CWL _ _ _ _ _ _
    refine CWL.condF rfl ?_
    simp only [flat, List.cons_append, List.nil_append, List.append_nil]
    refine CWL.reg (ops := [(.call ⟨.value (.func 5), #[.tmp 10], #[22]⟩, 23), (.extract (.tmp 1) 0, 22), (.extract (.tmp 1) 1, 4)]) (b := [(8, 5), (7, 3), (38, 5), (37, 3), (34, 1), (36, 1), (35, 10)]) (by kernel_rfl) ?_
    refine OpK.asCall rfl callAg rfl ((agIs hsort herr4 (Nat.lt_of_lt_of_le hgE hc04.size) hoct4 (by show (encKU _ 4 sch v).length ≤ _; omega)).mono ?_)
    rintro en w5 ⟨x5, he, hc5, hx5⟩
    unfold AgKU at hx5
    rw [hrd'] at hx5
    obtain ⟨ver5, d5, hv5, rfl, hoct5⟩ := hx5
    have hvv5 : ver5 = ver' := by rw [hv0'] at hv5; cases hv5; rfl
    subst hvv5
    rw [henc'] at hoct5
    refine ⟨_, he, ?_⟩
    refine OpK.extract rfl rfl ?_
    refine OpK.extract rfl rfl ?_
    show CWL _ _ _ _ _ _
    have hc05 := hc04.trans' hc5
    have hoct45 : OctIs w5 (fun k => k < w5.heap.size) (encKU ver5 4 sch v) d4 := (hoct4.keep fun k hk => hc5.block k hk fun h => h).mono2 fun k hk => Nat.lt_of_lt_of_le hk hc5.size
    refine CWL.pin [(5, d4), (7, d5), (8, .bool true)] (all_pinF rfl (all_pinF rfl (all_pinF rfl (fun _ h => by cases h)))) fun σ => ?_
    refine CWL.cons (CW.region ?_)
    refine RW.want rfl ?_
    refine OpK.move ?_
    refine RW.want rfl ?_
    refine OpK.move ?_
    refine RW.want rfl ?_
    refine OpK.move ?_
    refine RW.want rfl ?_
    refine OpK.move ?_
    refine RW.want rfl ?_
    refine OpK.asCall rfl Seat.sameIs.1 rfl ((Seat.sameIs.2 w5 (fun k => k < w5.heap.size) _ _ d4 d5 hoct45 hoct5 (fun k h => h) (by omega) (by omega)).mono ?_)
    rintro en w6 ⟨he, hc6⟩
    rw [show (encKU ver5 4 sch v == encKU ver5 4 sch v) = true by simp] at he
    refine ⟨_, he, ?_⟩
    refine RW.want rfl ?_
    refine OpK.pick rfl ?_
    refine RW.want rfl ?_
    refine OpK.assign ?_
    refine RW.z ?_
    refine CWL.ret ?_
    exact ⟨_, rfl, rfl, hc05.trans' hc6⟩

end Go.Proofs.YtolbjfphpmojcaaDoor.OffsetCommitValue
