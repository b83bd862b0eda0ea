/- Tags: the law. -/
import Derived.Test.YtagmcjolgfkcaaaKxSt4
import Derived.Test.YtagmcjolgfkcaaaKxSort
namespace Go.Proofs.Ytagmcjolgfkcaaa.St
open Go.Kx Go.RowKit Go.Proofs
set_option maxRecDepth 100000
set_option linter.unusedSimpArgs false
set_option linter.unusedVariables false

theorem enc_tagB : ∀ (m : List (Nat × List UInt8)), (∀ x ∈ m, x.2.length ≤ 2000) → m.flatMap encTag = m.flatMap tagB
  | [], _ => rfl
  | x :: m, h => by
    have h1 := h x (by simp)
    rw [List.flatMap_cons, List.flatMap_cons, enc_tagB m fun y hy => h y (List.mem_cons_of_mem _ hy)]
    unfold encTag tagB
    rw [word_eq (by omega)]

set_option maxHeartbeats 4000000 in
theorem law0 (hsort : SortIs Try.prog 22 23 52 33) (w : World) (l : List (Nat × List UInt8)) (v : Value) (h : Ts w l v) :
    Calls Try.prog 3 #[v] w fun en w' => ∃ x, en = .returned x ∧ x = .bool true ∧ Ch (fun _ => False) w w' := by
  refine Calls.of_CW Try.func3 rfl (by decide +kernel) (Nat.le_of_ble_eq_true (by kernel_rfl)) (CW.of_flat ?_)
  simp only [flat, List.cons_append, List.nil_append, List.append_nil]
  refine CWL.reg (ops := [(.assign (.const (Go.Value.bool false)), 4)]) (b := [(2, 1)]) (by kernel_rfl) ?_
  refine OpK.assign ?_
  show CWL _ _ _ _ _ _
  refine CWL.reg (ops := [(.call ⟨.value (.func 4), #[.tmp 0], #[22]⟩, 4), (.unOp .not 4 (.tmp 1), 4)]) (b := [(9, 3), (8, 1), (7, 0)]) (by kernel_rfl) ?_
  refine OpK.asCall rfl call4 rfl ((fits5 w l v h).mono ?_)
  rintro en w1 ⟨_, he1, hc1, b0, rfl, hb0⟩
  refine ⟨_, he1, ?_⟩
  refine OpK.not rfl ?_
  show CWL _ _ _ _ _ _
  cases b0 with
  | false =>
    refine CWL.condT rfl ?_
    simp only [flat, List.cons_append, List.nil_append, List.append_nil]
    refine CWL.reg (ops := [(.assign (.const (Go.Value.bool true)), 4)]) (b := [(2, 1)]) (by kernel_rfl) ?_
    refine OpK.assign ?_
    show CWL _ _ _ _ _ _
    refine CWL.ret ?_
    exact ⟨_, rfl, rfl, hc1⟩
  | true =>
  obtain ⟨hn, _⟩ := hb0 rfl
  refine CWL.condF rfl ?_
  simp only [flat, List.cons_append, List.nil_append, List.append_nil]
  try refine CWL.nil_ (P := Try.prog) (n := 0) ?_
  show CWL _ _ _ _ _ _
  refine CWL.reg (ops := [(.call ⟨.value (.func 5), #[.tmp 0], #[22]⟩, 4), (.unOp .not 4 (.tmp 1), 4)]) (b := [(12, 3), (11, 1), (10, 0)]) (by kernel_rfl) ?_
  refine OpK.asCall rfl call5 rfl ((tagsFit w1 l v (h.ch hc1) (by omega)).mono ?_)
  rintro en w2 ⟨_, he2, hc2', b, rfl, hb⟩
  refine ⟨_, he2, ?_⟩
  refine OpK.not rfl ?_
  show CWL _ _ _ _ _ _
  have hc2 : Ch (fun _ => False) w w2 := hc1.trans' hc2'
  cases b with
  | false =>
    refine CWL.condT rfl ?_
    simp only [flat, List.cons_append, List.nil_append, List.append_nil]
    refine CWL.reg (ops := [(.assign (.const (Go.Value.bool true)), 4)]) (b := [(2, 1)]) (by kernel_rfl) ?_
    refine OpK.assign ?_
    show CWL _ _ _ _ _ _
    refine CWL.ret ?_
    exact ⟨_, rfl, rfl, hc2⟩
  | true =>
    obtain ⟨h50, hs2⟩ := hb rfl
    have hml := set_len l []
    rw [List.length_nil, Nat.zero_add] at hml
    have hlen : (setAll [] l).length = (lastT l).length := by rw [← last_sort, sortTags_len]
    have hs3 : ∀ x ∈ lastT l, x.2.length ≤ 2000 := fun x hx => hs2 x (lastT_mem x hx)
    have hidem := lastT_of_rising (lastT_rising l)
    have henc : encEach (setAll [] l) = (lastT l).flatMap tagB := by
      unfold encEach
      rw [last_sort]
      exact enc_tagB _ hs3
    refine CWL.condF rfl ?_
    simp only [flat, List.cons_append, List.nil_append, List.append_nil]
    try refine CWL.nil_ (P := Try.prog) (n := 0) ?_
    show CWL _ _ _ _ _ _
    refine CWL.reg (ops := [(.call ⟨.value (.func 7), #[.tmp 0], #[22]⟩, 24), (.call ⟨.value (.func 6), #[.tmp 1], #[24]⟩, 24)]) (b := [(3, 3), (15, 3), (14, 1), (13, 0)]) (by kernel_rfl) ?_
    refine OpK.asCall rfl call7 rfl ((tagsOf w2 l v (h.ch hc2) (by omega)).mono ?_)
    rintro en w3 ⟨t1, he3, hT1, hc3'⟩
    refine ⟨_, he3, ?_⟩
    refine OpK.asCall rfl call6 rfl ((lastTags w3 l t1 hT1 (by omega)).mono ?_)
    rintro en w4 ⟨want, he4, hW4, hc4'⟩
    refine ⟨_, he4, ?_⟩
    show CWL _ _ _ _ _ _
    have hc4 : Ch (fun _ => False) w w4 := (hc2.trans' hc3').trans' hc4'
    refine CWL.reg (ops := [(.call ⟨.value (.func 8), #[.tmp 0], #[22]⟩, 28), (.extract (.tmp 1) 0, 3), (.extract (.tmp 1) 1, 22), (.extract (.tmp 1) 2, 27)]) (b := [(6, 7), (5, 5), (4, 3), (21, 7), (20, 5), (19, 3), (16, 1), (18, 1), (17, 0)]) (by kernel_rfl) ?_
    refine OpK.asCall rfl call8 rfl ((setTags hsort w4 l v (h.ch hc4) h50 hs2).mono ?_)
    rintro en w5 ⟨_, he5, e, d, rfl, hE, hD, hc5'⟩
    refine ⟨_, he5, ?_⟩
    rw [hlen]
    refine OpK.extract (vs := #[.int .i64 ((lastT l).length : Int), e, d]) (v := .int .i64 ((lastT l).length : Int)) rfl rfl ?_
    refine OpK.extract (vs := #[.int .i64 ((lastT l).length : Int), e, d]) (v := e) rfl rfl ?_
    refine OpK.extract (vs := #[.int .i64 ((lastT l).length : Int), e, d]) (v := d) rfl rfl ?_
    show CWL _ _ _ _ _ _
    have hc5 : Ch (fun _ => False) w w5 := hc4.trans' hc5'
    have hW5 := hW4.ch hc5'
    generalize hM : lastT l = M at *
    have hM50 : M.length ≤ 50 := by omega
    obtain ⟨aw, cw, hwf, _⟩ := id hW5
    subst hwf
    obtain ⟨ae, ce, hef, _⟩ := id hE
    subst hef
    show CWL _ _ _ _ _ _
    refine CWL.cons (CW.region ?_)
    refine RW.want rfl ?_
    refine OpK.move ?_
    refine RW.want rfl ?_
    refine OpK.move ?_
    refine RW.want rfl ?_
    refine OpK.len (e := 38) (by kernel_rfl) rfl ?_
    refine RW.want rfl ?_
    refine OpK.cmp (r := true) (by simp [cmpB]) rfl rfl ?_
    refine RW.want rfl ?_
    refine OpK.move ?_
    refine RW.want rfl ?_
    refine OpK.move ?_
    refine RW.want rfl ?_
    refine OpK.len (e := 35) (by kernel_rfl) rfl ?_
    refine RW.want rfl ?_
    refine OpK.move ?_
    refine RW.want rfl ?_
    refine OpK.cmp (r := true) (by simp [cmpB]) rfl rfl ?_
    refine RW.want rfl ?_
    refine OpK.pick rfl ?_
    refine RW.want rfl ?_
    refine OpK.move ?_
    refine RW.want rfl ?_
    refine OpK.move ?_
    refine RW.want rfl ?_
    refine OpK.asCall rfl call7 rfl ((tagsOf w5 M _ hE (by omega)).mono ?_)
    rintro en w6 ⟨t6, he6, hT6, hc6⟩
    refine ⟨_, he6, ?_⟩
    refine RW.want rfl ?_
    refine OpK.asCall rfl call6 rfl ((lastTags w6 M t6 hT6 (by omega)).mono ?_)
    rintro en w7 ⟨t7, he7, hT7, hc7⟩
    refine ⟨_, he7, ?_⟩
    refine RW.want rfl ?_
    refine OpK.move ?_
    refine RW.want rfl ?_
    rw [hidem] at hT7
    have hc57 := hc6.trans' hc7
    refine OpK.asCall rfl call9 rfl ((sameTags w7 M M t7 _ hT7 (hW5.ch hc57) (by omega) rfl hs3).mono ?_)
    rintro en w8 ⟨_, he8, rfl, hc8⟩
    refine ⟨_, he8, ?_⟩
    refine RW.want rfl ?_
    refine OpK.pick rfl ?_
    refine RW.want rfl ?_
    refine OpK.move ?_
    refine RW.want rfl ?_
    refine OpK.move ?_
    refine RW.want rfl ?_
    refine OpK.move ?_
    refine RW.want rfl ?_
    have hc58 := hc57.trans' hc8
    refine OpK.asCall rfl call11 rfl ((tagBytes w8 M _ (hW5.ch hc58) (by omega) hs3 (by
      have h1 := enc_le M fun x hx => ⟨hW5.few x hx, hs3 x hx⟩
      rw [enc_tagB M hs3] at h1
      simp only [Lim]
      omega)).mono ?_)
    rintro en w9 ⟨d9, he9, hg9⟩
    refine ⟨_, he9, ?_⟩
    refine RW.want rfl ?_
    have hc59 := hc58.trans' hg9.new_ch
    have hlb : (M.flatMap tagB).length ≤ 1000000 := by
      have h1 := enc_le M fun x hx => ⟨hW5.few x hx, hs3 x hx⟩
      rw [enc_tagB M hs3] at h1
      omega
    rw [henc] at hD
    refine OpK.asCall rfl call10 rfl ((same w9 _ _ d d9 (hD.chw hc59) hg9.own.oc (by omega) (by omega)).mono ?_)
    rintro en wa ⟨_, hea, rfl, hca⟩
    refine ⟨_, hea, ?_⟩
    refine RW.want rfl ?_
    refine OpK.pick rfl ?_
    refine RW.want rfl ?_
    refine OpK.assign ?_
    refine RW.z ?_
    refine CWL.ret ?_
    exact ⟨_, rfl, congrArg Value.bool (decide_eq_true rfl), hc5.trans' (hc59.trans' hca)⟩
theorem law (w : World) (l : List (Nat × List UInt8)) (v : Value) (h : Ts w l v) :
    Calls Try.prog 3 #[v] w fun en w' => ∃ x, en = .returned x ∧ x = .bool true ∧ Ch (fun _ => False) w w' := law0 Srt.sortIs w l v h
end Go.Proofs.Ytagmcjolgfkcaaa.St
