/- The message BrokerHeartbeatRequest: it is read so. -/
import Derived.Test.YtkgelojkhmjhkaaGreatDoorKxRdr
import Derived.Test.YtkgelojkhmjhkaaGreatDoorKxKbS
namespace Go.Proofs.YtkgelojkhmjhkaaGreatDoor.BrokerHeartbeatRequest
open Go.Kx Go.RowKit Go.Proofs
set_option maxRecDepth 100000
set_option linter.unusedSimpArgs false
set_option linter.unusedVariables false

theorem mixed : Tryz.prog.follows .mixedOrders = true := by kernel_rfl
theorem resIs : resTmp Tryz.f28 = some 6 := by kernel_rfl
theorem calC : Callable Tryz.prog 55 := (rd .nilIface 55 .comp (by kernel_rfl)).1
theorem compIs (eV : Value) : RfOk Tryz.prog 1 eV 55 .comp := (rd eV 55 .comp (by kernel_rfl)).2
theorem zeroR : ((Tryz.prog.info? 88).bind (·.zero)).map (·.cells) = some [Value.slice none 0 0, Value.bool false].toArray := by kernel_rfl
theorem sizeR : (Tryz.prog.info? 88).map (·.size) = some 2 := by kernel_rfl
theorem ifaceErr : isIface Tryz.prog 49 = true := by kernel_rfl
theorem got_known {α : Type} {d : Dc α} {a x : α} {l r : List UInt8} {s' : Rs} (h : Got (some l) d a s') (hd : d l = some (x, r)) : a = x ∧ s' = ⟨r, false⟩ := by
  unfold Got at h
  rw [Option.bind_some, hd] at h
  exact h
theorem span_known (x z : List UInt8) : (rdSpan (x.length : Int) ⟨x ++ z, false⟩).1.getD [] = x ∧ (rdSpan (x.length : Int) ⟨x ++ z, false⟩).2 = ⟨z, false⟩ :=
  got_known (got_span (x.length : Int) ⟨x ++ z, false⟩) (decSpan_app x z rfl)
theorem decN_uu : ∀ {vs : List V}, (∀ x ∈ vs, ∃ l, x = .u l ∧ l.length = 16) → decN (decW true .uuid) vs.length (vs.flatMap (encW true .uuid)) = some (vs, [])
  | [], _ => rfl
  | x :: vs, h => by
    obtain ⟨l, rfl, hl⟩ := h x (by simp)
    rw [List.length_cons, decN, List.flatMap_cons]
    have e : decW true .uuid (encW true .uuid (.u l) ++ vs.flatMap (encW true .uuid)) = some (.u l, vs.flatMap (encW true .uuid)) := by
      show (decSpan 16 (l ++ vs.flatMap (encW true .uuid))).map _ = _
      rw [decSpan_app l _ (by rw [hl]; rfl)]
      rfl
    rw [e]
    simp only [Option.bind_some]
    rw [decN_uu fun y hy => h y (by simp [hy])]
    rfl
/-- A list that is there is read as it was written. -/
theorem body_dec {nul : Bool} {v : V} (h : ∀ x ∈ v.elems, ∃ l, x = .u l ∧ l.length = 16) (hl : v.elems.length ≤ 32767) (h0 : 0 < v.elems.length) (hn : v.isNil = false) : decLen true (bodyU nul v) = some ((v.elems.length : Int), v.elems.flatMap (encW true .uuid)) ∧ ((decLen true (bodyU nul v)).bind fun n => decN (decW true .uuid) n.1.toNat n.2) = some (v.elems, []) := by
  have h1 : decLen true (bodyU nul v) = some ((v.elems.length : Int), v.elems.flatMap (encW true .uuid)) := by
    unfold decLen bodyU
    rw [decCnt_enc (by omega), cntOf, hn, Bool.and_false, if_neg (by decide)]
    simp only [Option.bind_some]
    rw [if_neg (by rw [flat16 h]; omega)]
  refine ⟨h1, ?_⟩
  rw [h1]
  simp only [Option.bind_some, Int.toNat_natCast]
  exact decN_uu h
theorem isNil_of {v : V} (h : 0 < v.elems.length) : v.isNil = false := by cases v <;> first | rfl | (simp [V.elems] at h)
theorem elems_nil {v : V} (h : v.isNil = true) : v.elems = [] := by cases v <;> first | rfl | (simp [V.isNil] at h)

/-- What is still to be read, and what has been. -/
structure RI (vS vF : V) (tl rem : List (Nat × List UInt8)) (cS cF : Value) (xS xF : V) (tlc : List (Nat × List UInt8)) : Prop where
  rise : Rising rem
  small : ∀ x ∈ rem, x.1 < 4294967296 ∧ x.2.length < 4294967296
  s0 : (∀ x ∈ rem, x.1 ≠ 0) → xS.elems = vS.elems
  s1 : (∃ x ∈ rem, x.1 = 0) → cS = .slice none 0 0
  s2 : ∀ x ∈ rem, x.1 = 0 → x.2 = bodyU false vS ∧ 0 < vS.elems.length
  f0 : (∀ x ∈ rem, x.1 ≠ 1) → xF.elems = vF.elems ∧ (vF.isNil = true → cF = .slice none 0 0)
  f1 : (∃ x ∈ rem, x.1 = 1) → cF = .slice none 0 0
  f2 : ∀ x ∈ rem, x.1 = 1 → x.2 = bodyU true vF ∧ vF.isNil = false
  tags : tlc ++ rem.filter (fun x => decide (2 ≤ x.1)) = sortTags tl
theorem RI.start {ver : Int} {m : List V} {vS vF : V} {tl : List (Nat × List UInt8)} (h : GoodB ver m vS vF tl) : RI vS vF tl (allT vS vF tl) (.slice none 0 0) (.slice none 0 0) .arrN .arrN [] := by
  have hst : ∀ x ∈ sortTags tl, 2 ≤ x.1 ∧ x.1 < 4294967296 ∧ x.2.length < 4294967296 := fun x hx => ⟨h.key x (sortTags_mem.1 hx), h.tags.small x (sortTags_mem.1 hx)⟩
  have hrs := sortTags_rising h.tags.nodup
  have hfl : (sortTags tl).filter (fun x => decide (2 ≤ x.1)) = sortTags tl := List.filter_eq_self.2 fun x hx => decide_eq_true (hst x hx).1
  have hmem : ∀ x ∈ allT vS vF tl, (x = (0, bodyU false vS) ∧ 0 < vS.elems.length) ∨ (x = (1, bodyU true vF) ∧ vF.isNil = false) ∨ x ∈ sortTags tl := by
    intro x hx
    unfold allT at hx
    rcases List.mem_append.1 hx with hx | hx
    · obtain ⟨k, hk, rfl⟩ := List.mem_map.1 hx
      rcases keys_mem hk with ⟨rfl, h0⟩ | ⟨rfl, h0⟩
      · exact .inl ⟨rfl, h0⟩
      · exact .inr (.inl ⟨rfl, h0⟩)
    · exact .inr (.inr hx)
  refine ⟨?_, fun x hx => ?_, fun h0 => ?_, fun _ => rfl, fun x hx h0 => ?_, fun h1 => ⟨?_, fun _ => rfl⟩, fun _ => rfl, fun x hx h1 => ?_, ?_⟩
  · unfold allT keysOf
    by_cases p : vS.elems.length > 0 <;> by_cases q : vF.isNil = false
    · rw [if_pos p, if_pos q]
      exact ⟨fun y hy => by rcases List.mem_cons.1 hy with rfl | hy; exact Nat.zero_lt_one; exact Nat.lt_of_lt_of_le (show (0 : Nat) < 2 by decide) (hst y hy).1, fun y hy => Nat.lt_of_lt_of_le (show (1 : Nat) < 2 by decide) (hst y hy).1, hrs⟩
    · rw [if_pos p, if_neg q]
      exact ⟨fun y hy => Nat.lt_of_lt_of_le (show (0 : Nat) < 2 by decide) (hst y hy).1, hrs⟩
    · rw [if_neg p, if_pos q]
      exact ⟨fun y hy => Nat.lt_of_lt_of_le (show (1 : Nat) < 2 by decide) (hst y hy).1, hrs⟩
    · rw [if_neg p, if_neg q]
      exact hrs
  · rcases hmem x hx with ⟨rfl, _⟩ | ⟨rfl, _⟩ | hx
    · exact ⟨show (0 : Nat) < 4294967296 by decide, body_short h.uS h.lS⟩
    · exact ⟨show (1 : Nat) < 4294967296 by decide, body_short h.uF h.lF⟩
    · exact (hst x hx).2
  · have : ¬ vS.elems.length > 0 := fun p => by
      refine h0 (0, bodyU false vS) ?_ rfl
      unfold allT keysOf
      rw [if_pos p]
      simp [tagB]
    rw [List.eq_nil_of_length_eq_zero (by omega : vS.elems.length = 0)]
    rfl
  · rcases hmem x hx with ⟨rfl, h2⟩ | ⟨rfl, _⟩ | hx
    · exact ⟨rfl, h2⟩
    · cases h0
    · have := (hst x hx).1; omega
  · have : ¬ vF.isNil = false := fun p => by
      refine h1 (1, bodyU true vF) ?_ rfl
      unfold allT keysOf
      rw [if_pos p]
      simp [tagB]
    rw [elems_nil (v := vF) (by simpa using this)]
    rfl
  · rcases hmem x hx with ⟨rfl, _⟩ | ⟨rfl, h2⟩ | hx
    · cases h1
    · exact ⟨rfl, h2⟩
    · have := (hst x hx).1; omega
  · unfold allT
    rw [List.filter_append, hfl, List.nil_append]
    have : ((keysOf vS vF).map fun k => (k, tagB vS vF k)).filter (fun x => decide (2 ≤ x.1)) = [] := by
      rw [List.filter_eq_nil_iff]
      intro x hx
      obtain ⟨k, hk, rfl⟩ := List.mem_map.1 hx
      rcases keys_mem hk with ⟨rfl, _⟩ | ⟨rfl, _⟩ <;> simp
    rw [this, List.nil_append]
section
variable {vS vF : V} {tl rem : List (Nat × List UInt8)} {cS cF cv : Value} {xS xF x' : V} {tlc : List (Nat × List UInt8)} {k : Nat} {b : List UInt8}
theorem RI.step0 (h : RI vS vF tl ((0, b) :: rem) cS cF xS xF tlc) (hx : x'.elems = vS.elems) : RI vS vF tl rem cv cF x' xF tlc := by
  have hr := h.rise
  have hne : ∀ x ∈ rem, x.1 ≠ 0 := fun x hx => by have := hr.1 x hx; simp only at this; omega
  refine ⟨hr.2, fun x hx => h.small x (by simp [hx]), fun _ => hx, fun ⟨x, hx, e⟩ => absurd e (hne x hx), fun x hx e => absurd e (hne x hx), fun h1 => h.f0 fun x hx => ?_, fun ⟨x, hx, e⟩ => h.f1 ⟨x, by simp [hx], e⟩, fun x hx => h.f2 x (by simp [hx]), ?_⟩
  · rcases List.mem_cons.1 hx with rfl | hx
    · show (0 : Nat) ≠ 1
      decide
    · exact h1 x hx
  · have := h.tags
    rwa [List.filter_cons_of_neg (by simp)] at this
theorem RI.step1 (h : RI vS vF tl ((1, b) :: rem) cS cF xS xF tlc) (hx : x'.elems = vF.elems) : RI vS vF tl rem cS cv xS x' tlc := by
  have hr := h.rise
  have hne : ∀ x ∈ rem, x.1 ≠ 1 := fun x hx => by have := hr.1 x hx; simp only at this; omega
  have hn := (h.f2 (1, b) (by simp) rfl).2
  refine ⟨hr.2, fun x hx => h.small x (by simp [hx]), fun h0 => h.s0 fun x hx => ?_, fun ⟨x, hx, e⟩ => h.s1 ⟨x, by simp [hx], e⟩, fun x hx => h.s2 x (by simp [hx]), fun _ => ⟨hx, fun e => by rw [hn] at e; cases e⟩, fun ⟨x, hx, e⟩ => absurd e (hne x hx), fun x hx e => absurd e (hne x hx), ?_⟩
  · rcases List.mem_cons.1 hx with rfl | hx
    · show (1 : Nat) ≠ 0
      decide
    · exact h0 x hx
  · have := h.tags
    rwa [List.filter_cons_of_neg (by simp)] at this
theorem RI.stepT (h : RI vS vF tl ((k, b) :: rem) cS cF xS xF tlc) (hnd : (tagKeys tl).Nodup) (hk : 2 ≤ k) : RI vS vF tl rem cS cF xS xF (setTag tlc k b) := by
  have hr := h.rise
  have ht := h.tags
  rw [List.filter_cons_of_pos (by simpa using hk)] at ht
  have hnew : setTag tlc k b = tlc ++ [(k, b)] := setTag_new fun y hy e => by
    have hrs := sortTags_rising hnd
    rw [← ht] at hrs
    have : ∀ {l r : List (Nat × List UInt8)} {z : Nat × List UInt8}, Rising (l ++ z :: r) → ∀ y ∈ l, y.1 < z.1 := by
      intro l
      induction l with
      | nil => intro r z _ y hy; cases hy
      | cons a l ih =>
        intro r z hh y hy
        rcases List.mem_cons.1 hy with rfl | hy
        · exact hh.1 z (by simp)
        · exact ih hh.2 y hy
    have := this hrs y hy
    simp only at this
    omega
  rw [hnew]
  refine ⟨hr.2, fun x hx => h.small x (by simp [hx]), fun h0 => h.s0 fun x hx => ?_, fun ⟨x, hx, e⟩ => h.s1 ⟨x, by simp [hx], e⟩, fun x hx => h.s2 x (by simp [hx]), fun h1 => h.f0 fun x hx => ?_, fun ⟨x, hx, e⟩ => h.f1 ⟨x, by simp [hx], e⟩, fun x hx => h.f2 x (by simp [hx]), by rw [List.append_assoc]; exact ht⟩
  · rcases List.mem_cons.1 hx with rfl | hx
    · simp only; omega
    · exact h0 x hx
  · rcases List.mem_cons.1 hx with rfl | hx
    · simp only; omega
    · exact h1 x hx
end
theorem enc_end {ver : Int} {m m' : List V} {vS vF wS wF : V} {tl : List (Nat × List UInt8)} (hnd : (tagKeys tl).Nodup) (hm : enc ver true sch6 (.st m') = enc ver true sch6 (.st m)) (hS : wS.elems = vS.elems) (hF : wF.elems = vF.elems) (hn : wF.isNil = vF.isNil) :
    encB ver m' wS wF (sortTags tl) = encB ver m vS vF tl := by
  have hk : keysOf wS wF = keysOf vS vF := by unfold keysOf; rw [hS, hn]
  have h0 : bodyU false wS = bodyU false vS := by unfold bodyU; rw [hS, encLen_congr (v := vS) (v' := wS) (by rw [hS]) (fun h => by cases h)]
  have h1 : bodyU true wF = bodyU true vF := by unfold bodyU; rw [hF, encLen_congr (v := vF) (v' := wF) (by rw [hF]) (fun _ => hn)]
  have hE : tagE wS wF = tagE vS vF := by
    funext k
    unfold tagE tagB
    split
    · rw [h0]
    · rw [h1]
    · rfl
  unfold encB
  rw [hm, hk, hE, sortTags_len]
  unfold encEach
  rw [sortTags_of_rising (sortTags_rising hnd)]

set_option maxHeartbeats 16000000 in
theorem readIs {w : World} {S : Nat → Prop} {g : Nat} {cells : List Value} {src : Value} {l : List UInt8} {tE : TypeId} {vE : Value} {ver : Int} {m0 : List V} {vS vF : V} {tl : List (Nat × List UInt8)} (hG : GoodB ver m0 vS vF tl) (hl : l = encB ver m0 vS vF tl) (hv0 : 0 ≤ ver) (hb : Blk w g 61 cells) (hrep : Rep w (fun _ => False) T (((zeroV T).puts ps).put 0 (.i ver)) cells)
    (herr : w.cell? ⟨1, 0, none⟩ = some (.iface tE vE)) (hgE : 1 < w.heap.size ∧ 1 ≠ g) (hsrc : SrcIs w S l src) (hS : ∀ k, S k → k < w.heap.size ∧ k ≠ g) :
    Calls Tryz.prog 28 #[.pointer (some ⟨g, 0, none⟩), src, .bool false] w fun en w' => ∃ x, en = .returned x ∧ x = .nilIface ∧ Ch (fun k => k = g) w w' ∧ ∃ m' wS wF tl' cells', Blk w' g 61 cells' ∧ cells'.length = 9 ∧ Rep w' (fun k => k < w'.heap.size ∧ k ≠ g) T (mkB m' wS wF tl') cells' ∧ m'.length = 6 ∧ (V.st m').fld 0 = .i ver ∧ encB ver m' wS wF tl' = l := by
  obtain ⟨ms, hms⟩ := isIface_spec ifaceErr
  have hkn := keys_len vS vF
  have hmany := hG.many
  have hcnt : word ((keysOf vS vF).length + tl.length) = (allT vS vF tl).length := by rw [all_len, word_eq (by omega)]
  have hflat := all_flat vS vF tl
  obtain ⟨v6, hd6, he6, hk6⟩ := dec_enc (ver := ver) (fx := true) sch6 (v0 := .st (l6 ver)) (v := .st m0) (uvar (allT vS vF tl).length ++ (allT vS vF tl).flatMap encTag) ok6 (by kernel_rfl) hG.g6
  have hd6 : dec ver true sch6 (.st (l6 ver)) l = some (v6, uvar (allT vS vF tl).length ++ (allT vS vF tl).flatMap encTag) := by
    rw [hl]
    unfold encB
    rw [hcnt, ← hflat]
    exact hd6
  refine preW_use (T := T) (T4 := T6) (s := sch6) (m := 0) (fx := true) (ps := ps) (q := 7) (vr := 8) (fl := 9) (p := 10) (res := 6) (hbody := rfl) 18 (l4 := l6 ver) (cr := cr) (R := fun x w' => x = .nilIface ∧ Ch (fun k => k = g) w w' ∧ ∃ m' wS wF tl' cells', Blk w' g 61 cells' ∧ cells'.length = 9 ∧ Rep w' (fun k => k < w'.heap.size ∧ k ≠ g) T (mkB m' wS wF tl') cells' ∧ m'.length = 6 ∧ (V.st m').fld 0 = .i ver ∧ encB ver m' wS wF tl' = l) Seat.rdT (rd (.iface tE vE)) Tryz.func28 resIs (by kernel_rfl)
    hb hrep (split6 ver) herr hgE hsrc hS rfl (decide_eq_true hv0).symm ok6 (by kernel_rfl) (fun hn w' hc => by rw [hd6] at hn; cases hn) ?_
  intro r σ w3 v3 s3 c4 hSt h4l hM hr hc3 hq hp hv hf hu
  rw [hd6] at hSt
  obtain ⟨rfl, rfl⟩ := hSt
  simp only [flat, List.cons_append, List.nil_append, List.append_nil, List.drop_succ_cons, List.drop_zero]
  refine CWL.pin [(2, .bool false), (7, .pointer (some ⟨r, 0, none⟩)), (8, .int .i16 ver), (9, .bool true), (10, .pointer (some ⟨g, 0, none⟩))] (all_pinE hu (all_pinE hq (all_pinE hv (all_pinE hf (all_pinE hp (fun _ h => by cases h)))))) fun σ => ?_
  have hrg : r ≠ g := hM.ne
  have hrep3 : Rep w3 (Ob (fun k => k = r ∨ k = g) w3) T6 v3 c4 := by
    have := hM.rep
    rw [List.drop_zero, List.take_append_of_le_length (by omega), List.take_of_length_le (by omega)] at this
    exact this
  obtain ⟨m, rfl, hm⟩ := rep6 hrep3
  have hb3 : Blk w3 g 61 (c4 ++ cr) := hM.blk
  have h3 : RdIs w3 S r 88 ⟨uvar (allT vS vF tl).length ++ (allT vS vF tl).flatMap encTag, false⟩ := hM.rd
  have herr3 : w3.cell? ⟨1, 0, none⟩ = some (.iface tE vE) := hM.err
  have hgE3 : 1 < w3.heap.size ∧ 1 ≠ r ∧ 1 ≠ g := hM.eW
  have hSl : ∀ k, S k → k < w3.heap.size ∧ ¬ (k = r ∨ k = g) := hM.src
  have hgl3 := hM.blk.lt
  have hrl3 := hM.rd.lt
  have h4l : c4.length = 6 := h4l
  clear hM
  refine CWL.reg (ops := []) (b := [(70, 18)]) (by kernel_rfl) ?_
  show CWL _ _ _ _ _ _
  refine CWL.condT rfl ?_
  simp only [flat, List.cons_append, List.nil_append, List.append_nil]
  refine CWL.reg (ops := [(.call ⟨.value (.func 49), #[.tmp 14], #[88]⟩, 52)]) (b := [(16, 1), (71, 1)]) (by kernel_rfl) ?_
  refine OpK.asCall rfl Rd.call49 rfl ((Rd.r49 w3 S (fun k hk => (hSl k hk).1) r 88 _ h3).mono ?_)
  rintro en w4 ⟨n, s4, he4, hn, h4, hc4, hg4, _⟩
  refine ⟨_, he4, ?_⟩
  show CWL _ _ _ _ _ _
  obtain ⟨rfl, rfl⟩ := got_known hg4 (decUv_uvar _ (by rw [all_len]; omega) _)
  have hs4 := hc4.size
  have hb4 := hb3.keep (hc4.block g hgl3 (Ne.symm hrg))
  have hSlo : ∀ k, S k → k < w4.heap.size ∧ k ≠ g := fun k hk => ⟨by have := (hSl k hk).1; omega, fun h => (hSl k hk).2 (.inr h)⟩
  have hrS : ¬ S r := fun h => (hSl r h).2 (.inl rfl)
  have hKS4 : KS w4 w4.heap.size S g c4 (.slice none 0 0) (.slice none 0 0) (.map none) [] [] [] (fun _ => False) (fun _ => False) (fun _ => False) :=
    ⟨hb4, .inl rfl, .inl rfl, ⟨.arrN, rfl, rfl⟩, ⟨.arrN, rfl, rfl⟩, .inl ⟨rfl, rfl⟩, fun _ h => h.elim, fun _ h => h.elim, fun _ h => h.elim, fun k h => (by obtain ⟨_, _, h⟩ := h; cases h), fun k h => (by obtain ⟨_, _, h⟩ := h; cases h), fun _ h => h.elim⟩
  refine CWL.cons (CW.block (CW.loop (fun mm σ w1 => ∃ (rem : List (Nat × List UInt8)) (cS cF c : Value) (xS xF : V) (tlc : List (Nat × List UInt8)) (DS DF DT : Nat → Prop), mm = rem.length ∧ rem.length < 4294967296 ∧ σ 2 = .bool false ∧ σ 7 = .pointer (some ⟨r, 0, none⟩) ∧ σ 8 = .int .i16 ver ∧ σ 9 = .bool true ∧ σ 10 = .pointer (some ⟨g, 0, none⟩) ∧ σ 16 = .int .u32 (rem.length : Int) ∧
      RdIs w1 S r 88 ⟨rem.flatMap encTag, false⟩ ∧ Ch (fun k => k = r ∨ k = g) w3 w1 ∧ w4.heap.size ≤ w1.heap.size ∧ KS w1 w4.heap.size S g c4 cS cF c xS.elems xF.elems tlc DS DF DT ∧ RI vS vF tl rem cS cF xS xF tlc) (allT vS vF tl).length
      ⟨allT vS vF tl, .slice none 0 0, .slice none 0 0, .map none, .arrN, .arrN, [], _, _, _, rfl, hn, rfl, rfl, rfl, rfl, rfl, rfl, h4, hc4.mono fun _ _ h => .inl h, Nat.le_refl _, hKS4, RI.start hG⟩ ?_))
  rintro mm σ w1 ⟨rem, cS, cF, c, xS, xF, tlc, DS, DF, DT, hmm, hk, q2, q7, q8, q9, q10, q22, h1, hc1, hsz1, hKS, hRI⟩
  refine CW.pin [(2, .bool false), (7, .pointer (some ⟨r, 0, none⟩)), (8, .int .i16 ver), (9, .bool true), (10, .pointer (some ⟨g, 0, none⟩)), (16, .int .u32 (rem.length : Int))] (all_pinE q2 (all_pinE q7 (all_pinE q8 (all_pinE q9 (all_pinE q10 (all_pinE q22 (fun _ h => by cases h))))))) fun σ => ?_
  simp only [flat, List.cons_append, List.nil_append, List.append_nil]
  have hSl1 : ∀ k, S k → k < w1.heap.size := fun k hk => by have := (hSl k hk).1; have := hc1.size; omega
  have hgl1 := hKS.blk.lt
  have hrl1 := h1.lt
  have hc31 := hc1.size
  have hglo : g < w4.heap.size := by omega
  have hrlo : r < w4.heap.size := by omega
  refine CWL.reg (ops := [(.binOp .gtr 52 (.tmp 32) (.const (Go.Value.int Go.IntKind.u32 0)) 52, 4)]) (b := [(73, 1), (72, 32)]) (by kernel_rfl) ?_
  refine OpK.cmp rfl rfl rfl ?_
  show CWL _ _ _ _ _ _
  cases rem with
  | nil =>
    refine CWL.condF (congrArg Value.bool (decide_eq_false (by simp))) ?_
    simp only [flat, List.cons_append, List.nil_append, List.append_nil]
    refine CWL.cons (CW.exit ?_)
    simp only [Then, InBlock, if_true]
    have herr1 : w1.cell? ⟨1, 0, none⟩ = some (.iface tE vE) := (ch_cell hc1 (a := ⟨1, 0, none⟩) hgE3.1 (fun h => by rcases h with h | h; exact hgE3.2.1 h; exact hgE3.2.2 h) rfl).trans herr3
    show CWL _ _ _ _ _ _
    refine CWL.reg (ops := [(.call ⟨.value (.func 55), #[.tmp 14], #[88]⟩, 49)]) (b := [(6, 1), (179, 1)]) (by kernel_rfl) ?_
    refine OpK.asCall rfl calC rfl ((compIs (.iface tE vE) w1 S r 88 _ h1 herr1).mono ?_)
    rintro en w5 ⟨he5, hw5⟩
    rw [hw5]
    refine ⟨_, he5, ?_⟩
    show CWL _ _ _ _ _ _
    refine CWL.ret ?_
    obtain ⟨wS, hwS, hrS'⟩ := hKS.lstS
    obtain ⟨wF, hwF, hrF'⟩ := hKS.lstF
    have hup : ∀ k, S k ∨ (w4.heap.size ≤ k ∧ k < w1.heap.size) → k < w1.heap.size ∧ k ≠ g := fun k hk => by
      rcases hk with hk | hk
      · exact ⟨hSl1 k hk, (hSlo k hk).2⟩
      · exact ⟨hk.2, by omega⟩
    have e0 := hRI.s0 (fun x hx => by cases hx)
    obtain ⟨e1, e2⟩ := hRI.f0 (fun x hx => by cases hx)
    have et : tlc = sortTags tl := by have := hRI.tags; simpa using this
    have hnil : wF.isNil = vF.isNil := by
      cases hvn : vF.isNil with
      | true =>
        have hcF := e2 hvn
        subst hcF
        cases wF <;> simp only [Rep] at hrF' <;> first | rfl | (obtain ⟨_, _, h, _⟩ := hrF'; cases h)
      | false =>
        refine isNil_of ?_
        rw [hwF, e1]
        exact hG.nF hvn
    refine ⟨_, rfl, rfl, hc3.trans hc1 fun k hk e => by rcases e with e | e; (have := hr; omega); exact e, m, wS, wF, tlc, _, hKS.blk, by rw [List.length_append, h4l]; rfl, rep_all (hrep3.keepMono (fun k hk => hc1.block k hk.1 hk.2) fun k hk => ⟨by have := hk.1; omega, fun h => hk.2 (.inr h)⟩) (hrS'.mono fun k hk => hup k (hKS.inS k hk)) (hrF'.mono fun k hk => hup k (hKS.inF k hk)) (hKS.tm.rep (fun k hk => hup k (.inl hk)) fun k hk => hup k (.inr (hKS.inT k hk))), hm, ?_, ?_⟩
    · rw [hk6 0 (by decide)]
      rfl
    · rw [hl, et]
      exact enc_end hG.tags.nodup he6 (hwS.trans e0) (hwF.trans e1) hnil
  | cons tg rem =>
  obtain ⟨key, body⟩ := tg
  obtain ⟨hsk, hsb⟩ := hRI.small (key, body) (by simp)
  simp only at hsk hsb
  refine CWL.condT (congrArg Value.bool (decide_eq_true (by simp only [List.length_cons]; omega))) ?_
  simp only [flat, List.cons_append, List.nil_append, List.append_nil]
  refine CWL.block ?_
  simp only [flat, List.cons_append, List.nil_append, List.append_nil]
  refine CWL.reg (ops := [(.call ⟨.value (.func 49), #[.tmp 14], #[88]⟩, 52)]) (b := [(17, 1), (76, 1)]) (by kernel_rfl) ?_
  refine OpK.asCall rfl Rd.call49 rfl ((Rd.r49 w1 S hSl1 r 88 _ h1).mono ?_)
  rintro en w5 ⟨x1, sa, he5, hx1, h5a, hc5, hga, _⟩
  refine ⟨_, he5, ?_⟩
  show CWL _ _ _ _ _ _
  obtain ⟨rfl, rfl⟩ : x1 = key ∧ sa = ⟨uvar body.length ++ (body ++ rem.flatMap encTag), false⟩ := got_known hga (by
    rw [List.flatMap_cons]
    unfold encTag
    simp only [List.append_assoc]
    rw [decUv_uvar _ hsk, word_eq hsb])
  have hs5 := hc5.size
  have hKS5 := hKS.keep hc5 hrg hrS hrlo hSl1
  have hSl5 : ∀ k, S k → k < w5.heap.size := fun k hk => by have := hSl1 k hk; omega
  obtain ⟨sp1, sp2⟩ := span_known body (rem.flatMap encTag)
  refine CWL.reg (ops := []) (b := [(77, 34)]) (by kernel_rfl) ?_
  show CWL _ _ _ _ _ _
  refine CWL.block ?_
  simp only [flat, List.cons_append, List.nil_append, List.append_nil]
  refine CWL.reg (ops := [(.binOp .eql 52 (.tmp 154) (.const (Go.Value.int Go.IntKind.u32 0)) 52, 4)]) (b := [(86, 1), (87, 1)]) (by kernel_rfl) ?_
  refine OpK.cmp rfl rfl rfl ?_
  show CWL _ _ _ _ _ _
  by_cases hq0 : x1 = 0
  · refine CWL.condT (congrArg Value.bool (by rw [hq0]; rfl)) ?_
    simp only [flat, List.cons_append, List.nil_append, List.append_nil]
    refine CWL.reg (ops := [(.call ⟨.value (.func 49), #[.tmp 14], #[88]⟩, 52), (.convert 52 3 (.tmp 1), 3), (.call ⟨.value (.func 51), #[.tmp 14, .tmp 3], #[88, 3]⟩, 22), (.build 88 #[(0, .tmp 5)], 88), (.alloc 88, 0), (.store 88 (.tmp 9) (.tmp 7), 0)]) (b := [(18, 9), (91, 7), (90, 5), (89, 3), (88, 1)]) (by kernel_rfl) ?_
    refine OpK.asCall rfl Rd.call49 rfl ((Rd.r49 w5 S hSl5 r 88 _ h5a).mono ?_)
    rintro en w6 ⟨x2, sb, he6, hx2, h6, hc6, hgb, _⟩
    obtain ⟨rfl, rfl⟩ := got_known hgb (decUv_uvar _ hsb _)
    refine ⟨_, he6, ?_⟩
    have hs6 := hc6.size
    refine OpK.convInt (k := .u32) (k' := .i64) (n := (body.length : Int)) (by kernel_rfl) (by kernel_rfl) rfl ?_
    rw [(i64_of_u32 body.length hx2).1]
    refine OpK.asCall rfl Rd.call51 rfl ((Rd.sp51 w6 S (fun k hk => by have := hSl5 k hk; omega) r 88 _ h6 (body.length : Int)).mono ?_)
    rintro en w7 ⟨v7, he7, hv7, h7, hc7, _⟩
    rw [sp1] at hv7
    rw [sp2] at h7
    refine ⟨_, he7, ?_⟩
    have hs7 := hc7.size
    obtain ⟨a7, cc7, rfl, hlc7⟩ := hv7.form
    refine OpK.build (cells := #[.slice a7 body.length cc7, .bool false]) (Seat.rdT.made a7 _ cc7) ?_
    refine OpK.allocZ [.slice none 0 0, .bool false] zeroR fun w8 q8 hb8 hc8 hq8 hs8 => ?_
    refine OpK.storeG (cs := [.slice none 0 0, .bool false]) (us := [.slice a7 body.length cc7, .bool false]) sizeR rfl rfl (by intro u hu; simp only [List.mem_cons, List.not_mem_nil, or_false] at hu; rcases hu with rfl | rfl <;> rfl) hb8 rfl fun w9 hb9 hc9 hs9 => ?_
    show CWL _ _ _ _ _ _
    have hc17 : Ch (fun k => k = r) w1 w7 := (hc5.trans' hc6).trans' hc7
    have hs17 := hc17.size
    have hKS7 := hKS.keep hc17 hrg hrS hrlo hSl1
    have hc79 : Ch (fun _ => False) w7 w9 := hc8.trans hc9 fun i hi e => by omega
    have hs79 := hc79.size
    have hi9 : RdIs w9 S q8 88 ⟨body, false⟩ := ⟨_, hb9, hv7.keep fun k hk => hc79.block k (by have := hSl1 k hk; omega) fun h => h, fun h => by have := hSl1 q8 h; omega⟩
    have h9 : RdIs w9 S r 88 ⟨rem.flatMap encTag, false⟩ := h7.keepG (hc79.block r (by omega) fun h => h) fun k hk => hc79.block k (by have := hSl1 k hk; omega) fun h => h
    have hKS9 := hKS7.calm hc79 (fun k hk => by have := hSl1 k hk; omega)
    have hc39 : Ch (fun k => k = r ∨ k = g) w3 w9 := (hc1.trans' (hc17.mono fun _ _ h => .inl h)).trans' (hc79.mono fun _ _ h => h.elim)
    have herr9 : w9.cell? ⟨1, 0, none⟩ = some (.iface tE vE) := (ch_cell hc39 (a := ⟨1, 0, none⟩) hgE3.1 (fun h => by rcases h with h | h; exact hgE3.2.1 h; exact hgE3.2.2 h) rfl).trans herr3
    refine CWL.pin [(2, .bool false), (7, .pointer (some ⟨r, 0, none⟩)), (8, .int .i16 ver), (9, .bool true), (10, .pointer (some ⟨g, 0, none⟩)), (16, .int .u32 ((rem.length + 1 : Nat) : Int)), (18, .pointer (some ⟨q8, 0, none⟩))] (all_pinE rfl (all_pinE rfl (all_pinE rfl (all_pinE rfl (all_pinE rfl (all_pinE rfl (all_pinE rfl (fun _ h => by cases h)))))))) fun σ => ?_
    have hL : LIn ⟨Tryz.prog, Tryz.f28.ntmps, tab, 1, .iface tE vE, 6, ⟨8, some 9, 8⟩, 2⟩ true 18 10 [18, 2, 7, 8, 9, 10, 16] := ⟨by simp, fun x hx => by simp [Cx.kn] at hx; rcases hx with rfl | rfl <;> simp, by simp, by simp⟩
    have hX : (⟨Tryz.prog, Tryz.f28.ntmps, tab, 1, .iface tE vE, 6, ⟨8, some 9, 8⟩, 2⟩ : Cx).Sound := ⟨rd (.iface tE vE)⟩
    have hE9 : 1 < w9.heap.size ∧ 1 ≠ q8 ∧ 1 ≠ g ∧ ¬ rowIs cS 1 := ⟨by omega, by omega, hgE3.2.2, fun h => by have := (hKS.ownS _ h).1; omega⟩
    obtain ⟨hbody, hvn⟩ : body = bodyU false vS ∧ 0 < vS.elems.length := hRI.s2 (x1, body) (by simp) hq0
    obtain ⟨hd1, hd2⟩ := body_dec (nul := false) hG.uS hG.lS hvn (isNil_of hvn)
    rw [← hbody] at hd1 hd2
    refine rdArrIn_use (X := ⟨Tryz.prog, Tryz.f28.ntmps, tab, 1, .iface tE vE, 6, ⟨8, some 9, 8⟩, 2⟩) (S := S) (r := q8) (tR := 88) (T := T) (g := g) (o := 0) (tG := 61) (fx := true) (ver := ver) (L := [18, 2, 7, 8, 9, 10, 16]) (q := 18) (p := 10) 14 hX hL (nul := none) (.inl rfl) (k := 6) (off := 6) (e := eS) (body := elU ⟨Tryz.prog, Tryz.f28.ntmps, tab, 1, .iface tE vE, 6, ⟨8, some 9, 8⟩, 2⟩ [18, 2, 7, 8, 9, 10, 16] 18) (gd := decW true .uuid) (by kernel_rfl) rfl (fun a ix ln cs hb W ga te m c => elU_step hX hL hb W ga te m c) (cv := cS) hi9 hKS9.blk (by rw [List.getElem?_append_right (by omega), h4l]; rfl) ⟨rfl, fun s b hm => by simp [Cx.kn] at hm; rcases hm with ⟨rfl, rfl⟩ | ⟨rfl, rfl⟩ <;> rfl, rfl, rfl⟩ herr9
      hE9 (fun k hk => ⟨by have := hSl1 k hk; omega, fun e => by have := hSl1 k hk; omega, (hSlo k hk).2, fun h => by have := (hKS.ownS k h).1; have := (hSlo k hk).1; omega⟩) (by omega) (fun h => by have := hKS7.rowS.lt h; omega) (fun h => by have := (hKS.ownS _ h).1; omega) hKS9.rowS (by decide) (.inl rfl) ?_ ?_
    · intro hn
      rw [hd2] at hn
      cases hn
    intro σ' w10 cv' vs si hgN hiE hc10 hb10 hrow10 hl10 hown10 he
    rw [hd2] at hgN
    obtain ⟨rfl, rfl⟩ := hgN
    simp only at hl10
    rw [List.set_append_right _ _ (by omega), h4l] at hb10
    have hb10 : Blk w10 g 61 (c4 ++ [cv', cF, c]) := hb10
    have hs10 := hc10.size
    have hc710 : Ch (fun k => k = g ∨ rowIs cS k) w7 w10 := (hc79.mono fun _ _ h => h.elim).trans hc10 fun i hi e => by
      rcases e with e | e | e
      · exfalso; omega
      · exact .inl e
      · exact .inr e
    have hKS10 := hKS7.setS hc710 hSlo (by omega) hglo hb10 hrow10 (hl10.imp fun v h => ⟨h.1, h.2.mono fun k hk => by
      rcases hk with hk | hk | hk
      · exact .inl hk
      · exact .inr (.inl hk)
      · exact .inr (.inr ⟨by omega, hk.2⟩)⟩) (fun k hk => (hown10 k hk).imp id fun h => by omega)
    have hcE : Ch (fun k => k = r ∨ k = g) w3 w10 := hc39.trans hc10 fun i hi e => by
      rcases e with e | e | e
      · exfalso; omega
      · exact .inr e
      · have := (hKS.ownS i e).1; exfalso; omega
    have h10 : RdIs w10 S r 88 ⟨rem.flatMap encTag, false⟩ := h9.keepG (hc10.block r (by omega) fun e => by rcases e with e | e | e; omega; exact hrg e; (have := (hKS.ownS r e).1; omega)) fun k hk => hc10.block k (by have := hSl1 k hk; omega) fun e => by rcases e with e | e | e; (have := hSl1 k hk; omega); exact (hSlo k hk).2 e; (have := (hKS.ownS k e).1; have := (hSlo k hk).1; omega)
    have herrE : w10.cell? ⟨1, 0, none⟩ = some (.iface tE vE) := (ch_cell hcE (a := ⟨1, 0, none⟩) hgE3.1 (fun h => by rcases h with h | h; exact hgE3.2.1 h; exact hgE3.2.2 h) rfl).trans herr3
    simp only [List.drop_succ_cons, List.drop_zero]
    refine CWL.pin [(2, .bool false), (7, .pointer (some ⟨r, 0, none⟩)), (8, .int .i16 ver), (9, .bool true), (10, .pointer (some ⟨g, 0, none⟩)), (16, .int .u32 ((rem.length + 1 : Nat) : Int)), (18, .pointer (some ⟨q8, 0, none⟩))] (all_pinE ((he 2 (by simp)).trans rfl) (all_pinE ((he 7 (by simp)).trans rfl) (all_pinE ((he 8 (by simp)).trans rfl) (all_pinE ((he 9 (by simp)).trans rfl) (all_pinE ((he 10 (by simp)).trans rfl) (all_pinE ((he 16 (by simp)).trans rfl) (all_pinE ((he 18 (by simp)).trans rfl) (fun _ h => by cases h)))))))) fun σ => ?_
    refine CWL.reg (ops := [(.call ⟨.value (.func 55), #[.tmp 36], #[88]⟩, 49)]) (b := [(24, 1), (125, 1)]) (by kernel_rfl) ?_
    refine OpK.asCall rfl calC rfl ((compIs (.iface tE vE) w10 S q8 88 _ hiE herrE).mono ?_)
    rintro en w14 ⟨he14, hw14⟩
    rw [hw14]
    refine ⟨_, he14, ?_⟩
    show CWL _ _ _ _ _ _
    refine CWL.reg (ops := [(.binOp .neq 49 (.tmp 48) (.const (Go.Value.nilIface)) 49, 4)]) (b := [(127, 1), (126, 48)]) (by kernel_rfl) ?_
    refine OpK.cmpNil (v := .nilIface) (b := false) hms rfl rfl (.inl ⟨rfl, rfl⟩) ?_
    show CWL _ _ _ _ _ _
    refine CWL.condF rfl ?_
    simp only [flat, List.cons_append, List.nil_append, List.append_nil]
    show CWL _ _ _ _ _ _
    refine CWL.reg (ops := [(.binOp .sub 52 (.tmp 32) (.const (Go.Value.int Go.IntKind.u32 1)) 52, 52)]) (b := [(16, 1), (75, 1), (74, 32)]) (by kernel_rfl) ?_
    refine OpK.arith rfl rfl rfl ?_
    show CWL _ _ _ _ _ _
    subst hq0
    refine ⟨rem.length, by simp only [List.length_cons] at hmm; omega, rem, cv', cF, c, .arr vS.elems, xF, tlc, _, _, _, rfl, by simp only [List.length_cons] at hk; omega, rfl, rfl, rfl, rfl, rfl, ?_, h10, hcE, by omega, hKS10, RI.step0 hRI rfl⟩
    show Value.int .u32 (IntKind.u32.wrap (((rem.length + 1 : Nat) : Int) - 1)) = _
    congr 1
    rw [IntKind.wrap_u32]
    simp only [List.length_cons] at hk
    omega
  refine CWL.condF (congrArg Value.bool (by simp; omega)) ?_
  simp only [flat, List.cons_append, List.nil_append, List.append_nil]
  refine CWL.reg (ops := [(.binOp .eql 52 (.tmp 154) (.const (Go.Value.int Go.IntKind.u32 1)) 52, 4)]) (b := [(129, 1), (130, 1)]) (by kernel_rfl) ?_
  refine OpK.cmp rfl rfl rfl ?_
  show CWL _ _ _ _ _ _
  by_cases hq1 : x1 = 1
  · refine CWL.condT (congrArg Value.bool (by rw [hq1]; rfl)) ?_
    simp only [flat, List.cons_append, List.nil_append, List.append_nil]
    refine CWL.reg (ops := [(.call ⟨.value (.func 49), #[.tmp 14], #[88]⟩, 52), (.convert 52 3 (.tmp 1), 3), (.call ⟨.value (.func 51), #[.tmp 14, .tmp 3], #[88, 3]⟩, 22), (.build 88 #[(0, .tmp 5)], 88), (.alloc 88, 0), (.store 88 (.tmp 9) (.tmp 7), 0)]) (b := [(25, 9), (134, 7), (133, 5), (132, 3), (131, 1)]) (by kernel_rfl) ?_
    refine OpK.asCall rfl Rd.call49 rfl ((Rd.r49 w5 S hSl5 r 88 _ h5a).mono ?_)
    rintro en w6 ⟨x2, sb, he6, hx2, h6, hc6, hgb, _⟩
    obtain ⟨rfl, rfl⟩ := got_known hgb (decUv_uvar _ hsb _)
    refine ⟨_, he6, ?_⟩
    have hs6 := hc6.size
    refine OpK.convInt (k := .u32) (k' := .i64) (n := (body.length : Int)) (by kernel_rfl) (by kernel_rfl) rfl ?_
    rw [(i64_of_u32 body.length hx2).1]
    refine OpK.asCall rfl Rd.call51 rfl ((Rd.sp51 w6 S (fun k hk => by have := hSl5 k hk; omega) r 88 _ h6 (body.length : Int)).mono ?_)
    rintro en w7 ⟨v7, he7, hv7, h7, hc7, _⟩
    rw [sp1] at hv7
    rw [sp2] at h7
    refine ⟨_, he7, ?_⟩
    have hs7 := hc7.size
    obtain ⟨a7, cc7, rfl, hlc7⟩ := hv7.form
    refine OpK.build (cells := #[.slice a7 body.length cc7, .bool false]) (Seat.rdT.made a7 _ cc7) ?_
    refine OpK.allocZ [.slice none 0 0, .bool false] zeroR fun w8 q8 hb8 hc8 hq8 hs8 => ?_
    refine OpK.storeG (cs := [.slice none 0 0, .bool false]) (us := [.slice a7 body.length cc7, .bool false]) sizeR rfl rfl (by intro u hu; simp only [List.mem_cons, List.not_mem_nil, or_false] at hu; rcases hu with rfl | rfl <;> rfl) hb8 rfl fun w9 hb9 hc9 hs9 => ?_
    show CWL _ _ _ _ _ _
    have hc17 : Ch (fun k => k = r) w1 w7 := (hc5.trans' hc6).trans' hc7
    have hs17 := hc17.size
    have hKS7 := hKS.keep hc17 hrg hrS hrlo hSl1
    have hc79 : Ch (fun _ => False) w7 w9 := hc8.trans hc9 fun i hi e => by omega
    have hs79 := hc79.size
    have hi9 : RdIs w9 S q8 88 ⟨body, false⟩ := ⟨_, hb9, hv7.keep fun k hk => hc79.block k (by have := hSl1 k hk; omega) fun h => h, fun h => by have := hSl1 q8 h; omega⟩
    have h9 : RdIs w9 S r 88 ⟨rem.flatMap encTag, false⟩ := h7.keepG (hc79.block r (by omega) fun h => h) fun k hk => hc79.block k (by have := hSl1 k hk; omega) fun h => h
    have hKS9 := hKS7.calm hc79 (fun k hk => by have := hSl1 k hk; omega)
    have hc39 : Ch (fun k => k = r ∨ k = g) w3 w9 := (hc1.trans' (hc17.mono fun _ _ h => .inl h)).trans' (hc79.mono fun _ _ h => h.elim)
    have herr9 : w9.cell? ⟨1, 0, none⟩ = some (.iface tE vE) := (ch_cell hc39 (a := ⟨1, 0, none⟩) hgE3.1 (fun h => by rcases h with h | h; exact hgE3.2.1 h; exact hgE3.2.2 h) rfl).trans herr3
    refine CWL.pin [(2, .bool false), (7, .pointer (some ⟨r, 0, none⟩)), (8, .int .i16 ver), (9, .bool true), (10, .pointer (some ⟨g, 0, none⟩)), (16, .int .u32 ((rem.length + 1 : Nat) : Int)), (25, .pointer (some ⟨q8, 0, none⟩))] (all_pinE rfl (all_pinE rfl (all_pinE rfl (all_pinE rfl (all_pinE rfl (all_pinE rfl (all_pinE rfl (fun _ h => by cases h)))))))) fun σ => ?_
    have hL : LIn ⟨Tryz.prog, Tryz.f28.ntmps, tab, 1, .iface tE vE, 6, ⟨8, some 9, 8⟩, 2⟩ true 25 10 [25, 2, 7, 8, 9, 10, 16] := ⟨by simp, fun x hx => by simp [Cx.kn] at hx; rcases hx with rfl | rfl <;> simp, by simp, by simp⟩
    have hX : (⟨Tryz.prog, Tryz.f28.ntmps, tab, 1, .iface tE vE, 6, ⟨8, some 9, 8⟩, 2⟩ : Cx).Sound := ⟨rd (.iface tE vE)⟩
    have hE9 : 1 < w9.heap.size ∧ 1 ≠ q8 ∧ 1 ≠ g ∧ ¬ rowIs cF 1 := ⟨by omega, by omega, hgE3.2.2, fun h => by have := (hKS.ownF _ h).1; omega⟩
    obtain ⟨hbody, hvn⟩ : body = bodyU true vF ∧ 0 < vF.elems.length := ((hRI.f2 (x1, body) (by simp) hq1).imp id fun h => hG.nF h)
    obtain ⟨hd1, hd2⟩ := body_dec (nul := true) hG.uF hG.lF hvn (isNil_of hvn)
    rw [← hbody] at hd1 hd2
    refine rdArrIn_use (X := ⟨Tryz.prog, Tryz.f28.ntmps, tab, 1, .iface tE vE, 6, ⟨8, some 9, 8⟩, 2⟩) (S := S) (r := q8) (tR := 88) (T := T) (g := g) (o := 0) (tG := 61) (fx := true) (ver := ver) (L := [25, 2, 7, 8, 9, 10, 16]) (q := 25) (p := 10) 16 hX hL (nul := (some 0)) (.inr hv0) (k := 7) (off := 7) (e := eF) (body := elU ⟨Tryz.prog, Tryz.f28.ntmps, tab, 1, .iface tE vE, 6, ⟨8, some 9, 8⟩, 2⟩ [25, 2, 7, 8, 9, 10, 16] 25) (gd := decW true .uuid) (by kernel_rfl) rfl (fun a ix ln cs hb W ga te m c => elU_step hX hL hb W ga te m c) (cv := cF) hi9 hKS9.blk (by rw [List.getElem?_append_right (by omega), h4l]; rfl) ⟨rfl, fun s b hm => by simp [Cx.kn] at hm; rcases hm with ⟨rfl, rfl⟩ | ⟨rfl, rfl⟩ <;> rfl, rfl, rfl⟩ herr9
      hE9 (fun k hk => ⟨by have := hSl1 k hk; omega, fun e => by have := hSl1 k hk; omega, (hSlo k hk).2, fun h => by have := (hKS.ownF k h).1; have := (hSlo k hk).1; omega⟩) (by omega) (fun h => by have := hKS7.rowF.lt h; omega) (fun h => by have := (hKS.ownF _ h).1; omega) hKS9.rowF (by decide) (.inr ⟨_, hd1, by show (0 : Int) < _; omega⟩) ?_ ?_
    · intro hn
      rw [hd2] at hn
      cases hn
    intro σ' w10 cv' vs si hgN hiE hc10 hb10 hrow10 hl10 hown10 he
    rw [hd2] at hgN
    obtain ⟨rfl, rfl⟩ := hgN
    simp only at hl10
    rw [List.set_append_right _ _ (by omega), h4l] at hb10
    have hb10 : Blk w10 g 61 (c4 ++ [cS, cv', c]) := hb10
    have hs10 := hc10.size
    have hc710 : Ch (fun k => k = g ∨ rowIs cF k) w7 w10 := (hc79.mono fun _ _ h => h.elim).trans hc10 fun i hi e => by
      rcases e with e | e | e
      · exfalso; omega
      · exact .inl e
      · exact .inr e
    have hKS10 := hKS7.setF hc710 hSlo (by omega) hglo hb10 hrow10 (hl10.imp fun v h => ⟨h.1, h.2.mono fun k hk => by
      rcases hk with hk | hk | hk
      · exact .inl hk
      · exact .inr (.inl hk)
      · exact .inr (.inr ⟨by omega, hk.2⟩)⟩) (fun k hk => (hown10 k hk).imp id fun h => by omega)
    have hcE : Ch (fun k => k = r ∨ k = g) w3 w10 := hc39.trans hc10 fun i hi e => by
      rcases e with e | e | e
      · exfalso; omega
      · exact .inr e
      · have := (hKS.ownF i e).1; exfalso; omega
    have h10 : RdIs w10 S r 88 ⟨rem.flatMap encTag, false⟩ := h9.keepG (hc10.block r (by omega) fun e => by rcases e with e | e | e; omega; exact hrg e; (have := (hKS.ownF r e).1; omega)) fun k hk => hc10.block k (by have := hSl1 k hk; omega) fun e => by rcases e with e | e | e; (have := hSl1 k hk; omega); exact (hSlo k hk).2 e; (have := (hKS.ownF k e).1; have := (hSlo k hk).1; omega)
    have herrE : w10.cell? ⟨1, 0, none⟩ = some (.iface tE vE) := (ch_cell hcE (a := ⟨1, 0, none⟩) hgE3.1 (fun h => by rcases h with h | h; exact hgE3.2.1 h; exact hgE3.2.2 h) rfl).trans herr3
    simp only [List.drop_succ_cons, List.drop_zero]
    refine CWL.pin [(2, .bool false), (7, .pointer (some ⟨r, 0, none⟩)), (8, .int .i16 ver), (9, .bool true), (10, .pointer (some ⟨g, 0, none⟩)), (16, .int .u32 ((rem.length + 1 : Nat) : Int)), (25, .pointer (some ⟨q8, 0, none⟩))] (all_pinE ((he 2 (by simp)).trans rfl) (all_pinE ((he 7 (by simp)).trans rfl) (all_pinE ((he 8 (by simp)).trans rfl) (all_pinE ((he 9 (by simp)).trans rfl) (all_pinE ((he 10 (by simp)).trans rfl) (all_pinE ((he 16 (by simp)).trans rfl) (all_pinE ((he 25 (by simp)).trans rfl) (fun _ h => by cases h)))))))) fun σ => ?_
    refine CWL.reg (ops := [(.call ⟨.value (.func 55), #[.tmp 50], #[88]⟩, 49)]) (b := [(31, 1), (175, 1)]) (by kernel_rfl) ?_
    refine OpK.asCall rfl calC rfl ((compIs (.iface tE vE) w10 S q8 88 _ hiE herrE).mono ?_)
    rintro en w14 ⟨he14, hw14⟩
    rw [hw14]
    refine ⟨_, he14, ?_⟩
    show CWL _ _ _ _ _ _
    refine CWL.reg (ops := [(.binOp .neq 49 (.tmp 62) (.const (Go.Value.nilIface)) 49, 4)]) (b := [(177, 1), (176, 62)]) (by kernel_rfl) ?_
    refine OpK.cmpNil (v := .nilIface) (b := false) hms rfl rfl (.inl ⟨rfl, rfl⟩) ?_
    show CWL _ _ _ _ _ _
    refine CWL.condF rfl ?_
    simp only [flat, List.cons_append, List.nil_append, List.append_nil]
    show CWL _ _ _ _ _ _
    refine CWL.reg (ops := [(.binOp .sub 52 (.tmp 32) (.const (Go.Value.int Go.IntKind.u32 1)) 52, 52)]) (b := [(16, 1), (75, 1), (74, 32)]) (by kernel_rfl) ?_
    refine OpK.arith rfl rfl rfl ?_
    show CWL _ _ _ _ _ _
    subst hq1
    refine ⟨rem.length, by simp only [List.length_cons] at hmm; omega, rem, cS, cv', c, xS, .arr vF.elems, tlc, _, _, _, rfl, by simp only [List.length_cons] at hk; omega, rfl, rfl, rfl, rfl, rfl, ?_, h10, hcE, by omega, hKS10, RI.step1 hRI rfl⟩
    show Value.int .u32 (IntKind.u32.wrap (((rem.length + 1 : Nat) : Int) - 1)) = _
    congr 1
    rw [IntKind.wrap_u32]
    simp only [List.length_cons] at hk
    omega
  refine CWL.condF (congrArg Value.bool (by simp; omega)) ?_
  simp only [flat, List.cons_append, List.nil_append, List.append_nil]
  refine CWL.regD mixed ((fun _ => True)) [(0, true), (1, true), (2, true), (3, true), (4, false), (5, true), (6, false), (7, false)] (by decide +kernel) (trivial) ?_
  refine HW.early rfl rfl (Yi.move) ?_
  refine HW.early rfl rfl (Yi.nilCheck rfl) ?_
  refine HW.early rfl rfl (Yi.fieldAddr (off := 8) (by kernel_rfl) rfl) ?_
  refine HW.early rfl rfl (Yi.move) ?_
  refine HW.next rfl rfl ?_
  refine OpK.asCall rfl Rd.call49 rfl ((Rd.r49 w5.drew S (fun k hk => by have := hSl5 k hk; simp only [World.drew]; omega) r 88 _ (h5a.keepG (w' := w5.drew) rfl fun k hk => rfl)).mono ?_)
  rintro en w6 ⟨x2, sb, he6, hx2, h6, hc6, hgb, _⟩
  obtain ⟨rfl, rfl⟩ := got_known hgb (decUv_uvar _ hsb _)
  refine ⟨_, he6, trivial, ?_⟩
  have hs6 := hc6.size
  refine HW.early rfl rfl (Yi.convInt (k' := .i64) (by kernel_rfl) (by kernel_rfl) rfl) ?_
  refine HW.next rfl rfl ?_
  refine OpK.asCall rfl Rd.call51 rfl ?_
  show Calls _ _ #[.pointer (some ⟨r, 0, none⟩), .int .i64 (IntKind.i64.wrap (body.length : Int))] _ _
  rw [(i64_of_u32 body.length hx2).1]
  refine (Rd.sp51 w6 S (fun k hk => by have := hSl5 k hk; simp only [World.drew] at hs6; omega) r 88 _ h6 (body.length : Int)).mono ?_
  rintro en w7 ⟨v7, he7, hv7, h7, hc7, _⟩
  rw [sp1] at hv7
  rw [sp2] at h7
  refine ⟨_, he7, trivial, ?_⟩
  have hs7 := hc7.size
  have hc17 : Ch (fun k => k = r) w1 w7 := ((hc5.trans' (Ch.drew _ _)).trans' hc6).trans' hc7
  have hs17 := hc17.size
  have hKS7 := hKS.keep hc17 hrg hrS hrlo hSl1
  refine HW.next rfl rfl ?_
  refine OpK.asCall rfl Rd.call50 rfl ((Rd.set50 w7 S DT g 8 61 (c4 ++ [cS, cF, c]) c tlc x1 body v7 hKS7.blk (by rw [List.getElem?_append_right (by omega), h4l]; rfl) hKS7.tm (fun k hk => by have := hSl1 k hk; omega) (fun h => (hSl g h).2 (.inr rfl)) (fun k hk => ⟨fun h => by have := (hSl k h).1; have := (hKS7.inT k hk).1; omega, (hKS7.inT k hk).2, by have := (hKS7.inT k hk).1; omega⟩) hsk (hv7.oct fun _ h => h)).mono ?_)
  rintro en w8 ⟨he8, c8, hb8, hTM8, hc8⟩
  refine ⟨_, he8, trivial, ?_⟩
  refine HW.done ?_
  rw [List.set_append_right _ _ (by omega), h4l] at hb8
  have hb8 : Blk w8 g 61 (c4 ++ [cS, cF, c8]) := hb8
  have hKS8 := hKS7.setT hc8 hSlo (by omega) hglo hb8 hTM8
  have hs8 := hc8.size
  have hc38 : Ch (fun k => k = r ∨ k = g) w3 w8 := (hc1.trans' (hc17.mono fun _ _ h => .inl h)).trans hc8 fun i hi e => by
    rcases e with e | e
    · exact .inr e
    · have := (hKS7.inT i e).1; omega
  have h8 := h7.keepG (hc8.block r (by omega) (fun e => by rcases e with e | e; exact hrg e; (have := (hKS7.inT r e).1; omega))) fun k hk => hc8.block k (by have := hSl1 k hk; omega) (fun e => by rcases e with e | e; exact (hSl k hk).2 (.inr e); (have := (hSl k hk).1; have := (hKS7.inT k e).1; omega))
  show CWL _ _ _ _ _ _
  refine CWL.reg (ops := [(.binOp .sub 52 (.tmp 32) (.const (Go.Value.int Go.IntKind.u32 1)) 52, 52)]) (b := [(16, 1), (75, 1), (74, 32)]) (by kernel_rfl) ?_
  refine OpK.arith rfl rfl rfl ?_
  show CWL _ _ _ _ _ _
  refine ⟨rem.length, by simp only [List.length_cons] at hmm; omega, rem, cS, cF, c8, xS, xF, setTag tlc x1 body, _, _, _, rfl, by simp only [List.length_cons] at hk; omega, rfl, rfl, rfl, rfl, rfl, ?_, h8, hc38, by omega, hKS8, hRI.stepT hG.tags.nodup (by omega)⟩
  show Value.int .u32 (IntKind.u32.wrap (((rem.length + 1 : Nat) : Int) - 1)) = _
  congr 1
  rw [IntKind.wrap_u32]
  simp only [List.length_cons] at hk
  omega

end Go.Proofs.YtkgelojkhmjhkaaGreatDoor.BrokerHeartbeatRequest
