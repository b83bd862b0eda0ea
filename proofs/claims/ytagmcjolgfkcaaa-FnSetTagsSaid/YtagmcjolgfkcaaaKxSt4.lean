/- Tags: set, and told. -/
import Derived.Test.YtagmcjolgfkcaaaKxSt3
import Derived.Test.YtagmcjolgfkcaaaKxLast3
import Derived.Test.YtagmcjolgfkcaaaKxEaG
import Derived.Test.YtagmcjolgfkcaaaKxTgW
import Derived.Test.YtagmcjolgfkcaaaKxRdrB
import Derived.Test.YtagmcjolgfkcaaaKxAgn
import Derived.Test.YtagmcjolgfkcaaaKxTree3
namespace Go.Proofs.Ytagmcjolgfkcaaa.St
open Go.Kx Go.RowKit Go.Proofs
set_option maxRecDepth 100000
set_option linter.unusedSimpArgs false
set_option linter.unusedVariables false

theorem callT : Callable Try.prog 19 := ⟨Try.f19, Try.func19, by kernel_rfl, by kernel_rfl⟩
set_option maxHeartbeats 4000000 in
theorem told (bo : Nat) (S : Nat → Prop) (l : List (Nat × List UInt8)) (hl : l.length ≤ 1000000) (hx : ∀ x ∈ l, x.2.length ≤ 1000000) : Tells Try.prog 19 #[.pointer (some ⟨bo, 0, none⟩)] S l (ToldSt 35 22 bo) := by
  refine ⟨fun h => h.lt, fun h hs hk => h.keep hs hk, ?_⟩
  rintro F w d x v r ⟨⟨vb, us, hb, hne, how, hoF, hA⟩, hbo, hlt⟩ hd hk hv hS
  have hxl : x ∈ l := sortTags_mem.1 (by rw [← hd]; simp)
  have hdl : d.length ≤ 1000000 := by have := congrArg List.length hd; rw [sortTags_len, List.length_append] at this; omega
  have hus : us.length = d.length := hA.size
  obtain ⟨a, c, rfl, ha, hO⟩ : ∃ (a : Option Addr) (c : Nat), v = .slice a x.2.length c ∧ (a = none → x.2 = []) ∧ ∀ a', a = some a' → Oct w a' x.2 := by
    rcases hv with ⟨rfl, h0⟩ | ⟨a, c, rfl, _, h3, h4⟩
    · exact ⟨none, 0, by rw [h0]; rfl, (fun _ => h0), (fun _ h => by cases h)⟩
    · exact ⟨some a, c, rfl, (fun h => by cases h), (fun a' h => by cases h; exact h4)⟩
  refine (Calls.of_CW (R := fun y w' => y = .tuple #[] ∧ ∃ F', ToldSt 35 22 bo F' w' (d ++ [x]) ∧ (∀ i, F' i → F i ∨ w.heap.size ≤ i) ∧ Ch F w w') Try.func19 rfl (by decide +kernel) (Nat.le_of_ble_eq_true (by kernel_rfl)) (CW.of_flat ?_)).mono fun en w' ⟨x, he, hx, hR⟩ => ⟨by rw [he, hx], hR⟩
  simp only [flat, List.cons_append, List.nil_append, List.append_nil]
  obtain ⟨v1, w1, hr1, hg1⟩ := run_append_oct (P := Try.prog) (ty := 27) (t := 27) u8 und (Own.nil 5 w.drew) (a := a) (l := x.2) (c := c) ha hO (by have := hx x hxl; simp only [List.length_nil, Lim]; omega)
  rw [List.nil_append] at hg1
  obtain ⟨a1, c1, rfl, _, _⟩ := hg1.own.slice
  have hone : (Value.slice a1 x.2.length c1).oneCell' = true := rfl
  have how1 : TOwn 35 w1 vb us := (how.ch (Ch.drew _ _)).ch hg1.new_ch
  have how2 : TOwn 35 (w1.alloc (.cells #[.int .u32 (x.1 : Int), .slice a1 x.2.length c1] 35)) vb us := how1.ch (Ch.alloc _ _ _)
  obtain ⟨v3, w3, hr3, hown3, hc3, hb3⟩ := append_part (ty := 22) undI zI how2 (Part.one (x := (x.1, .slice a1 x.2.length c1)) hone) (by simp only [List.length_cons, List.length_nil]; omega)
  obtain ⟨hbw3, hTS, hCh⟩ := ToldSt.next (w := w.drew) (x := x) hbo hlt (hb.keep rfl) hne (how.ch (Ch.drew _ _)) hoF (hA.imp fun _ _ hR => ⟨hR.1, hR.2.keep fun _ _ => rfl⟩) hg1 (Ch.alloc _ w1 _) (by simp) hown3 hc3 hb3
  have fin : Value.tuple #[] = Value.tuple #[] ∧ ∃ F', ToldSt 35 22 bo F' (w3.setCell ⟨bo, 0, none⟩ v3) (d ++ [x]) ∧ (∀ i, F' i → F i ∨ w.heap.size ≤ i) ∧ Ch F w (w3.setCell ⟨bo, 0, none⟩ v3) :=
    ⟨rfl, _, hTS, fun i hi => hi.imp (fun h => h) (fun h => h.1), (Ch.drew _ _).trans' hCh⟩
  have hbd : Blk w.drew bo 22 [vb] := hb.keep rfl
  have hb1 : Blk w1 bo 22 [vb] := hbd.ch hg1.new_ch
  have hb2 := hb1.ch (Ch.alloc _ w1 (.cells #[.int .u32 (x.1 : Int), .slice a1 x.2.length c1] 35))
  refine CWL.regT mixed (fun _ => True) (.early 1 (.early 2 (.two 0 3 (.one 3 (.one 4 (.one 5 (.one 6 (.one 7 .done))))) (.early 4 (.two 0 5 (.one 5 (.one 6 (.one 7 .done))) (.one 0 (.one 6 (.one 7 .done)))))))) (by decide +kernel) (trivial) ?_
  refine HT.early_ rfl rfl (Yi.move) ?_
  refine HT.early_ rfl rfl (Yi.move) ?_
  refine ⟨oneK.mk rfl rfl ?_, oneK.mk rfl rfl ?_⟩
  · skip
    refine OpK.load (by kernel_rfl) rfl (hbd.cell 0) ?_
    refine ⟨trivial, ?_⟩
    refine oneK.mk rfl rfl ?_
    refine OpK.run rfl hr1 ?_
    refine ⟨trivial, ?_⟩
    refine oneK.mk rfl rfl ?_
    refine OpK.build (cells := #[.int .u32 (x.1 : Int), .slice a1 x.2.length c1]) (by kernel_rfl) ?_
    refine ⟨trivial, ?_⟩
    refine oneK.mk rfl rfl ?_
    refine OpK.buildS (by simp only [List.map_toArray, List.map_cons, List.map_nil]; exact run_bsT undI zI (x.1, .slice a1 x.2.length c1)) ?_
    refine ⟨trivial, ?_⟩
    refine oneK.mk rfl rfl ?_
    refine OpK.run rfl hr3 ?_
    refine ⟨trivial, ?_⟩
    refine oneK.mk rfl rfl ?_
    refine OpK.store (a := ⟨bo, 0, none⟩) (v := v3) (by kernel_rfl) rfl rfl hown3.one (by rw [hbw3.cell 0]; rfl) (hbw3.free 0) ?_
    refine ⟨trivial, ?_⟩
    exact ⟨_, rfl, fin⟩
  · skip
    refine OpK.run rfl hr1 ?_
    refine ⟨trivial, ?_⟩
    refine HT.early_ rfl rfl (Yi.build (cells := #[.int .u32 (x.1 : Int), .slice a1 x.2.length c1]) (by kernel_rfl)) ?_
    refine ⟨oneK.mk rfl rfl ?_, oneK.mk rfl rfl ?_⟩
    · skip
      refine OpK.load (by kernel_rfl) rfl (hb1.cell 0) ?_
      refine ⟨trivial, ?_⟩
      refine oneK.mk rfl rfl ?_
      refine OpK.buildS (by simp only [List.map_toArray, List.map_cons, List.map_nil]; exact run_bsT undI zI (x.1, .slice a1 x.2.length c1)) ?_
      refine ⟨trivial, ?_⟩
      refine oneK.mk rfl rfl ?_
      refine OpK.run rfl hr3 ?_
      refine ⟨trivial, ?_⟩
      refine oneK.mk rfl rfl ?_
      refine OpK.store (a := ⟨bo, 0, none⟩) (v := v3) (by kernel_rfl) rfl rfl hown3.one (by rw [hbw3.cell 0]; rfl) (hbw3.free 0) ?_
      refine ⟨trivial, ?_⟩
      exact ⟨_, rfl, fin⟩
    · skip
      refine OpK.buildS (by simp only [List.map_toArray, List.map_cons, List.map_nil]; exact run_bsT undI zI (x.1, .slice a1 x.2.length c1)) ?_
      refine ⟨trivial, ?_⟩
      refine oneK.mk rfl rfl ?_
      refine OpK.load (by kernel_rfl) rfl (hb2.cell 0) ?_
      refine ⟨trivial, ?_⟩
      refine oneK.mk rfl rfl ?_
      refine OpK.run rfl hr3 ?_
      refine ⟨trivial, ?_⟩
      refine oneK.mk rfl rfl ?_
      refine OpK.store (a := ⟨bo, 0, none⟩) (v := v3) (by kernel_rfl) rfl rfl hown3.one (by rw [hbw3.cell 0]; rfl) (hbw3.free 0) ?_
      refine ⟨trivial, ?_⟩
      exact ⟨_, rfl, fin⟩
theorem tmLow {w : World} {S N : Nat → Prop} {c : Value} {l : List (Nat × List UInt8)} (h : TM w S N c l) : ∀ x ∈ l, x.1 < 4294967296 := by
  rcases h with ⟨_, rfl⟩ | ⟨r, es, clk, _, _, _, _, hA⟩
  · intro x hx; cases hx
  · intro x hx
    obtain ⟨i, hi⟩ := List.mem_iff_getElem?.1 hx
    obtain ⟨e, _, hR⟩ := hA.at2 hi
    exact hR.2.1

theorem call15 : Callable Try.prog 15 := ⟨Try.f15, Try.func15, by kernel_rfl, by kernel_rfl⟩
set_option maxHeartbeats 4000000 in
theorem tagged (hsort : SortIs Try.prog 22 23 52 33) (w : World) (c : Value) (l : List (Nat × List UInt8)) (S N : Nat → Prop) (hm : TM w S N c l) (hS : ∀ k, S k → k < w.heap.size) (hN : ∀ k, N k → k < w.heap.size) (hl : l.length ≤ 1000000) (hx : ∀ x ∈ l, x.2.length ≤ 1000000) :
    Calls Try.prog 15 #[.agg #[c]] w fun en w' => ∃ v, en = .returned v ∧ Ts w' (sortTags l) v ∧ Ch (fun _ => False) w w' := by
  refine Calls.of_CW Try.func15 rfl (by decide +kernel) (Nat.le_of_ble_eq_true (by kernel_rfl)) (CW.of_flat ?_)
  simp only [flat, List.cons_append, List.nil_append, List.append_nil]
  refine CWL.reg (ops := [(.box 41 (.tmp 0), 0), (.assign (.const (Go.Value.slice none 0 0)), 22)]) (b := [(2, 3), (1, 1)]) (by kernel_rfl) ?_
  refine OpK.boxG (cs := [c]) rfl fun w1 g hb1 hc1 hg hs1 => ?_
  refine OpK.assign ?_
  show CWL _ _ _ _ _ _
  refine CWL.reg (ops := [(.alloc 22, 0)]) (b := [(3, 1)]) (by kernel_rfl) ?_
  refine OpK.allocZ [.slice none 0 0] (by kernel_rfl) fun w2 bo hbo hc2 hbo1 hs2 => ?_
  show CWL _ _ _ _ _ _
  have hc12 : Ch (fun _ => False) w w2 := hc1.trans' hc2
  have hg2 := hb1.ch hc2
  have hE : Calls Try.prog 18 #[.pointer (some ⟨g, 0, none⟩), .func (.func 19) #[] #[.pointer (some ⟨bo, 0, none⟩)]] w2 fun en w' => ∃ r, en = .returned r ∧ ∃ F', ToldSt 35 22 bo F' w' (sortTags l) ∧ Ch (fun i => i = bo) w2 w' := by
    have hI : ToldSt 35 22 bo (fun i => i = bo) w2 [] := ⟨⟨.slice none 0 0, [], hbo, (fun h => by cases h), TOwn.nil _ _, (fun k hk => by cases hk), .nil⟩, rfl, fun i hi => by subst hi; exact hbo.lt⟩
    have hc0 : w2.cell? ⟨g, 0 + 0, none⟩ = some c := hg2.cell 0
    have kp : ∀ k, k < w.heap.size → w2.heap[k]? = w.heap[k]? := fun k hk => hc12.block k hk fun h => h
    by_cases hl0 : l = []
    · subst hl0
      refine (Snd.each0 w2 g 0 c _ hc0 ?_).mono ?_
      · rcases hm with ⟨rfl, _⟩ | ⟨r, es, clk, rfl, h2, h3, h4, h5⟩
        · exact .inl rfl
        · have : es = #[] := by apply Array.ext'; have := h5.len; simpa using this
          exact .inr ⟨r, clk, rfl, (kp r (hN r h2)).trans (by rw [h3, this])⟩
      · rintro en w' ⟨r, he, rfl⟩
        exact ⟨r, he, _, hI, Ch.refl _ _⟩
    rcases hm with ⟨_, h⟩ | ⟨r, es, clk, rfl, h2, h3, h4, h5⟩
    · exact absurd h hl0
    have hsz := hc12.size
    have hsz1 := hc1.size
    have hr := hN r h2
    refine (EaG.eachG hsort callT (told bo (fun i => i < w2.heap.size ∧ i ≠ bo) l hl hx) hI hc0 ⟨hg2.lt, by omega⟩ ⟨by omega, by omega⟩ ((kp r hr).trans h3) h4 (h5.imp fun _ _ hR => (hR.keep fun k hk => kp k (hS k hk)).mono fun k hk => ⟨by have := hS k hk; omega, by have := hS k hk; omega⟩) (fun i hi => ⟨hi.1, hi.2⟩) hl0).mono ?_
    rintro en w' ⟨he, F', h1, _, h3⟩
    exact ⟨_, he, F', h1, h3⟩
  refine CWL.reg (ops := [(.makeFunc (.func 19) #[] #[.tmp 6], 42), (.call ⟨.value (.func 18), #[.tmp 2, .tmp 1], #[41, 42]⟩, 0)]) (b := [(5, 3), (4, 1)]) (by kernel_rfl) ?_
  refine OpK.makeFunc ?_
  refine OpK.asCall rfl EaG.callE rfl ?_
  refine calls_args (a := #[.pointer (some ⟨g, 0, none⟩), .func (.func 19) #[] #[.pointer (some ⟨bo, 0, none⟩)]]) (by simp [upd, enF, outF, Go.Kx.look, frame0]) ?_
  refine hE.mono ?_
  rintro en w3 ⟨rv, he3, F', ⟨⟨v, us, hbv, _, how, _, hA⟩, _, hlt⟩, hc3⟩
  refine ⟨_, he3, ?_⟩
  show CWL _ _ _ _ _ _
  refine CWL.reg (ops := [(.load 22 (.tmp 6), 22)]) (b := [(2, 1), (6, 1)]) (by kernel_rfl) ?_
  refine OpK.load (by kernel_rfl) rfl (hbv.cell 0) ?_
  show CWL _ _ _ _ _ _
  refine CWL.ret ?_
  refine ⟨_, rfl, how.ts (hA.imp fun _ _ hR => ⟨hR.1, hR.2.oc fun k hk => hlt k hk.1⟩) (fun x hx => tmLow hm x (sortTags_mem.1 hx)), hc12.trans hc3 fun k hk e => by have := hc1.size; omega⟩
theorem enc_le : ∀ (m : List (Nat × List UInt8)), (∀ x ∈ m, x.1 < 4294967296 ∧ x.2.length ≤ 2000) → (m.flatMap encTag).length ≤ m.length * 2010
  | [], _ => by simp
  | x :: m, h => by
    have h1 := enc_le m fun y hy => h y (List.mem_cons_of_mem _ hy)
    have h2 := h x (by simp)
    have h3 := uvar_le 4 x.1 (by have := h2.1; omega)
    have h4 := uvar_le 4 (word x.2.length) (by have := word_lt x.2.length; omega)
    simp only [List.flatMap_cons, List.length_append, List.length_cons, encTag]
    omega

theorem call8 : Callable Try.prog 8 := ⟨Try.f8, Try.func8, by kernel_rfl, by kernel_rfl⟩
set_option maxHeartbeats 4000000 in
theorem setTags (hsort : SortIs Try.prog 22 23 52 33) (w : World) (l : List (Nat × List UInt8)) (v : Value) (h : Ts w l v) (hn : l.length ≤ 50) (hs : ∀ x ∈ l, x.2.length ≤ 2000) :
    Calls Try.prog 8 #[v] w fun en w' => ∃ x, en = .returned x ∧ ∃ e d, x = .tuple #[.int .i64 ((setAll [] l).length : Int), e, d] ∧ Ts w' (lastT l) e ∧ Oc w' (encEach (setAll [] l)) d ∧ Ch (fun _ => False) w w' := by
  have h' := h
  obtain ⟨a, c, rfl, _⟩ := h'
  refine Calls.of_CW Try.func8 rfl (by decide +kernel) (Nat.le_of_ble_eq_true (by kernel_rfl)) (CW.of_flat ?_)
  simp only [flat, List.cons_append, List.nil_append, List.append_nil]
  refine CWL.reg (ops := [(.assign (.const (Go.Value.int Go.IntKind.i64 0)), 3), (.assign (.const (Go.Value.slice none 0 0)), 22), (.assign (.const (Go.Value.slice none 0 0)), 27)]) (b := [(4, 5), (3, 3), (2, 1)]) (by kernel_rfl) ?_
  refine OpK.assign ?_
  refine OpK.assign ?_
  refine OpK.assign ?_
  show CWL _ _ _ _ _ _
  refine CWL.reg (ops := [(.alloc 41, 0)]) (b := [(5, 1)]) (by kernel_rfl) ?_
  refine OpK.allocZ [.map none] (by kernel_rfl) fun w0 gT hgT0 hcT0 hgT hsT => ?_
  show CWL _ _ _ _ _ _
  refine CWL.reg (ops := [(.call ⟨.builtin .len, #[.tmp 0], #[22]⟩, 3), (.move (.const (Go.Value.int Go.IntKind.i64 0)), 3)]) (b := [(10, 3), (9, 1), (8, 0)]) (by kernel_rfl) ?_
  refine OpK.len (e := 35) (by kernel_rfl) rfl ?_
  refine OpK.move ?_
  show CWL _ _ _ _ _ _
  refine CWL.cons (CW.block (CW.loop (fun m σ wl => ∃ i cm S N, i + m = l.length ∧ σ 5 = .pointer (some ⟨gT, 0, none⟩) ∧ σ 8 = .slice a l.length c ∧ σ 9 = .int .i64 (l.length : Int) ∧ σ 10 = .int .i64 (i : Int) ∧ Blk wl gT 41 [cm] ∧ TM wl S N cm (setAll [] (l.take i)) ∧
      (∀ k, S k → w.heap.size ≤ k ∧ k < wl.heap.size ∧ k ≠ gT) ∧ (∀ k, N k → ¬ S k ∧ w.heap.size ≤ k ∧ k < wl.heap.size ∧ k ≠ gT) ∧ Ch (fun _ => False) w wl) l.length
    ⟨0, .map none, fun _ => False, fun _ => False, by omega, rfl, rfl, rfl, rfl, hgT0, .inl ⟨rfl, rfl⟩, fun _ h => h.elim, fun _ h => h.elim, hcT0⟩ ?_))
  rintro m σ wl ⟨i, cm, S, N, him, e5, e8, e9, e10, hgTl, hm, hS, hN, hcl⟩
  refine CW.pin [(5, .pointer (some ⟨gT, 0, none⟩)), (8, .slice a l.length c), (9, .int .i64 (l.length : Int)), (10, .int .i64 (i : Int))] (all_pin e5 (all_pin e8 (all_pin e9 (all_pin e10 (fun _ h => by cases h))))) fun σ => ?_
  simp only [flat, List.cons_append, List.nil_append, List.append_nil]
  refine CWL.reg (ops := [(.binOp .lss 3 (.tmp 20) (.tmp 18) 3, 0)]) (b := [(11, 1)]) (by kernel_rfl) ?_
  refine OpK.cmp rfl rfl rfl ?_
  show CWL _ _ _ _ _ _
  cases m with
  | zero =>
    refine CWL.condF (congrArg Value.bool (decide_eq_false (by omega))) ?_
    simp only [flat, List.cons_append, List.nil_append, List.append_nil]
    refine CWL.cons (CW.exit ?_)
    show CWL _ _ _ _ _ _
    rw [List.take_of_length_le (by omega)] at hm
    have hml := set_len l []
    have hmem := set_mem l []
    rw [List.length_nil, Nat.zero_add] at hml
    have hlow := tmLow hm
    have hbig : ∀ x ∈ setAll [] l, x.2.length ≤ 2000 := fun x hx => hs x (by rcases hmem x hx with h1 | h1; cases h1; exact h1)
    have hlast := last_sort l
    generalize setAll [] l = M at hm hml hlow hbig hlast ⊢
    have isT : ∀ {w' : World}, Ch (fun _ => False) wl w' → Is w' (fun k => k < w'.heap.size) gT 0 .tags (.tags M) ∧ Blk w' gT 41 [cm] := fun {w'} hc => by
      have hb := hgTl.ch hc
      have h1 : TM w' S N cm M := hm.keep (fun k hk => hc.block k (hS k hk).2.1 fun h => h) (fun k hk => ⟨hc.block k (hN k hk).2.2.1 fun h => h, hk⟩)
      exact ⟨⟨[cm], h1.rep (fun k hk => Nat.lt_of_lt_of_le (hS k hk).2.1 hc.size) (fun k hk => Nat.lt_of_lt_of_le (hN k hk).2.2.1 hc.size), fun j u hj => by rw [Nat.zero_add, hb.cell]; exact hj⟩, hb⟩
    refine CWL.regD0 mixed [(1, true), (0, false), (2, false), (3, false), (4, true), (5, true), (6, true)] (by decide +kernel) ?_
    refine HW.early rfl rfl (Yi.loadA (n := 1) (by kernel_rfl) rfl (fun w' hw' => (isT hw').2.ata) rfl) ?_
    refine HW.next rfl rfl ?_
    refine OpK.asCall rfl Snd.call14 rfl ((Snd.ok14 true wl.drew _ gT 0 (.tags M) (.inl rfl) (isT (Ch.drew _ _)).1).mono ?_)
    rintro en w1 ⟨he1, hw1⟩
    rw [hw1]
    refine ⟨_, he1, Ch.drew _ _, ?_⟩
    refine HW.next rfl rfl ?_
    refine OpK.asCall rfl call15 rfl ((tagged hsort wl.drew cm M S N (hm.keep (fun _ _ => rfl) (fun k hk => ⟨rfl, hk⟩)) (fun k hk => (hS k hk).2.1) (fun k hk => (hN k hk).2.2.1) (by omega) (fun x hx => by have := hbig x hx; omega)).mono ?_)
    rintro en w2 ⟨v2, he2, hT2, hc2⟩
    have hc2l : Ch (fun _ => False) wl w2 := (Ch.drew _ _).trans' hc2
    refine ⟨_, he2, hc2l, ?_⟩
    refine HW.next rfl rfl ?_
    refine OpK.asCall rfl Snd.call16 rfl ((TgW.ok16 hsort w2 _ gT 0 (.tags M) (.slice none 0 0) [] (.inl rfl) (isT hc2l).1 (isT hc2l).2.lt (Own.nil _ _) (fun k hk => ⟨hk, fun h => by cases h⟩) (by
      have h1 := enc_le (sortTags M) fun x hx => ⟨hlow x (sortTags_mem.1 hx), hbig x (sortTags_mem.1 hx)⟩
      rw [sortTags_len] at h1
      show 0 + ((sortTags M).flatMap encTag).length ≤ Lim
      simp only [Lim]
      omega)).mono ?_)
    rintro en w3 ⟨d3, he3, hg3⟩
    have hc3l : Ch (fun _ => False) wl w3 := hc2l.trans' hg3.new_ch
    refine ⟨_, he3, hc3l, ?_⟩
    refine HW.early rfl rfl (Yi.assign) ?_
    refine HW.early rfl rfl (Yi.assign) ?_
    refine HW.early rfl rfl (Yi.assign) ?_
    refine HW.done ?_
    refine CWL.ret ?_
    refine ⟨_, rfl, _, _, rfl, ?_, ?_, hcl.trans' hc3l⟩
    · rw [← hlast]
      exact hT2.ch hg3.new_ch
    · have := hg3.own.oc
      rw [List.nil_append] at this
      exact this
  | succ m =>
    refine CWL.condT (congrArg Value.bool (decide_eq_true (by omega))) ?_
    simp only [flat, List.cons_append, List.nil_append, List.append_nil]
    refine CWL.block ?_
    simp only [flat, List.cons_append, List.nil_append, List.append_nil]
    obtain ⟨x, hx⟩ : ∃ x, l[i]? = some x := ⟨_, List.getElem?_eq_getElem (by omega)⟩
    obtain ⟨a', c', vv, ev, hab, hk, hat0, hvv0⟩ := h.get hx
    cases ev
    have hat := hat0.ch (by rw [add_block]; exact hab) hcl
    have hvv := hvv0.chw hcl
    have hx2 := hs x (List.mem_of_getElem? hx)
    obtain ⟨av, cv, hvf, _⟩ := id hvv
    subst hvf
    refine CWL.reg (ops := [(.indexAddr 22 (.tmp 16) (.tmp 20), 0), (.load 35 (.tmp 1), 35), (.alloc 35, 0), (.store 35 (.tmp 5) (.tmp 3), 0)]) (b := [(7, 5), (13, 3), (12, 1)]) (by kernel_rfl) ?_
    refine OpK.indexAddr (s := 2) (by kernel_rfl) rfl rfl (by omega) ?_
    refine OpK.loadA (n := 2) (by kernel_rfl) rfl (hat) rfl ?_
    refine OpK.allocZ zeroG (by kernel_rfl) fun w2 r hr hc2 hr1 hs2 => ?_
    refine OpK.storeG (cs := zeroG) (us := [.int .u32 (x.1 : Int), .slice av x.2.length cv]) (by kernel_rfl) rfl rfl (by intro q hq; simp only [List.mem_cons, List.not_mem_nil, or_false] at hq; rcases hq with rfl | rfl; rfl; rfl) hr rfl fun w3 hbt3 hc3 hs3 => ?_
    show CWL _ _ _ _ _ _
    have hcl3 : Ch (fun _ => False) wl w3 := hc2.trans hc3 fun k hk e => by omega
    have hsl3 := hcl3.size
    have hgTlt := hgTl.lt
    obtain ⟨av', cv', ev, _, _, hnv, hov⟩ := hvv.chw (hcl3.trans' (Ch.drew _ _))
    cases ev
    obtain ⟨v4, w4, hr4, hg4⟩ := run_append_oct (P := Try.prog) (ty := 27) (t := 27) u8 und (Own.nil 5 w3.drew) (a := av) (l := x.2) (c := cv) hnv (fun a' e => (hov a' e).1) (by simp only [List.length_nil, Lim]; omega)
    rw [List.nil_append] at hg4
    have hc34 : Ch (fun _ => False) w3 w4 := (Ch.drew _ _).trans' hg4.new_ch
    have hcl4 : Ch (fun _ => False) wl w4 := hcl3.trans' hc34
    have hsl4 := hcl4.size
    have hlo4 : ∀ k, v4.ownBlock = some k → wl.heap.size ≤ k ∧ k < w4.heap.size := fun k hk => ⟨by have : w3.heap.size ≤ k := hg4.new_lo hk; omega, hg4.own.lt hk⟩
    have hm4 : TM w4 (fun k => S k ∨ v4.ownBlock = some k) N cm (setAll [] (l.take i)) := by
      have h1 : TM w4 S N cm (setAll [] (l.take i)) := hm.keep (fun k hk => hcl4.block k (hS k hk).2.1 fun h => h) (fun k hk => ⟨hcl4.block k (hN k hk).2.2.1 fun h => h, hk⟩)
      rcases h1 with h1 | ⟨r, es, clk, g1, g2, g3, g4, g5⟩
      · exact .inl h1
      · exact .inr ⟨r, es, clk, g1, g2, g3, g4, g5.imp fun _ _ hR => hR.mono fun k hk => .inl hk⟩
    have hset := Rd.set13 w4 (fun k => S k ∨ v4.ownBlock = some k) N gT 0 41 [cm] cm (setAll [] (l.take i)) x.1 x.2 v4 (hgTl.ch hcl4) rfl hm4
      (fun k hk => by rcases hk with h1 | h1; have := (hS k h1).2.1; omega; exact (hlo4 k h1).2)
      (fun hk => by rcases hk with h1 | h1; exact (hS gT h1).2.2 rfl; have := (hlo4 gT h1).1; omega)
      (fun k hk => ⟨fun h1 => by rcases h1 with h1 | h1; exact (hN k hk).1 h1; have := (hlo4 k h1).1; have := (hN k hk).2.2.1; omega, by have := (hN k hk).2.2.1; omega, (hN k hk).2.2.2⟩) hk (hg4.own.octIs fun k hk => .inr hk)
    have hnr : ¬ (r = gT ∨ N r) := fun hh => by
      rcases hh with h1 | h1
      · omega
      · have := (hN r h1).2.2.1; omega
    refine CWL.regD mixed (fun w' => Ch (fun k => k = gT ∨ N k) w3 w') [(0, true), (1, true), (2, true), (3, true), (4, false), (5, false)] (by decide +kernel) (Ch.drew _ _) ?_
    refine HW.early rfl rfl (Yi.fieldAddr (off := 0) (by kernel_rfl) rfl) ?_
    refine HW.early rfl rfl (Yi.load (by kernel_rfl) rfl (fun w' hw' => (hbt3.chS hw' hnr).cell 0)) ?_
    refine HW.early rfl rfl (Yi.fieldAddr (off := 1) (by kernel_rfl) rfl) ?_
    refine HW.early rfl rfl (Yi.load (by kernel_rfl) rfl (fun w' hw' => (hbt3.chS hw' hnr).cell 1)) ?_
    refine HW.next rfl rfl ?_
    refine OpK.run rfl hr4 ?_
    refine ⟨hc34.mono fun _ _ h => h.elim, ?_⟩
    refine HW.next rfl rfl ?_
    refine OpK.asCall rfl Rd.call13 rfl (hset.mono ?_)
    rintro en w5 ⟨he5, c5, hb5, hm5, hc5⟩
    refine ⟨_, he5, (hc34.mono fun _ _ h => h.elim).trans' hc5, ?_⟩
    refine HW.done ?_
    have hsl5 := hc5.size
    have hsw := hcl.size
    try refine CWL.nil_ (P := Try.prog) (n := 0) ?_
    show CWL _ _ _ _ _ _
    have hi1 := i64_succ i (by omega)
    refine CWL.reg (ops := [(.binOp .add 3 (.tmp 20) (.const (Go.Value.int Go.IntKind.i64 1)) 3, 3)]) (b := [(10, 1), (20, 1)]) (by kernel_rfl) ?_
    refine OpK.arith (r := ((i + 1 : Nat) : Int)) (by rw [← hi1]; rfl) rfl rfl ?_
    show CWL _ _ _ _ _ _
    try refine CWL.nil_ (P := Try.prog) (n := 0) ?_
    have hnext : setAll [] (l.take (i + 1)) = setTag (setAll [] (l.take i)) x.1 x.2 := by rw [List.take_add_one, hx]; simp [setAll]
    refine ⟨m, Nat.lt_succ_self m, i + 1, c5, _, _, by omega, rfl, rfl, rfl, rfl, hb5, by rw [hnext]; exact hm5, fun k hk => ?_, fun k hk => ?_, (hcl.trans' hcl4).trans hc5 fun k hk e => ?_⟩
    · rcases hk with h1 | h1
      · have := hS k h1; exact ⟨this.1, by omega, this.2.2⟩
      · have := hlo4 k h1; exact ⟨by omega, by omega, by omega⟩
    · rcases hk with h1 | h1
      · have h2 := hN k h1
        refine ⟨fun hh => ?_, h2.2.1, by omega, h2.2.2.2⟩
        rcases hh with h3 | h3
        · exact h2.1 h3
        · have := (hlo4 k h3).1; omega
      · refine ⟨fun hh => ?_, by omega, h1.2, by omega⟩
        rcases hh with h3 | h3
        · have := (hS k h3).2.1; omega
        · have := (hlo4 k h3).2; omega
    · rcases e with h1 | h1
      · omega
      · have := (hN k h1).2.1; omega
end Go.Proofs.Ytagmcjolgfkcaaa.St
