/- The message BrokerHeartbeatRequest: its fields, its known tags, how it lies while they are read. -/
import Derived.Test.YtkgelojkhmjhkaaGreatDoorKxSaid
import Derived.Test.YtkgelojkhmjhkaaGreatDoorKxSeat
import Derived.Test.YtkgelojkhmjhkaaGreatDoorKxPre2
import Derived.Test.YtkgelojkhmjhkaaGreatDoorKxRef
namespace Go.Proofs.YtkgelojkhmjhkaaGreatDoor.BrokerHeartbeatRequest
open Go.Kx Go.RowKit Go.Proofs
set_option maxRecDepth 100000
set_option linter.unusedSimpArgs false
set_option linter.unusedVariables false

def T : Ty := .cons (.int .i16) (.cons (.int .i32) (.cons (.int .i64) (.cons (.int .i64) (.cons (.bool) (.cons (.bool) (.cons (.arr (.uuid)) (.cons (.arr (.uuid)) (.cons (.tags) (.nil)))))))))
def T6 : Ty := .cons (.int .i16) (.cons (.int .i32) (.cons (.int .i64) (.cons (.int .i64) (.cons .bool (.cons .bool .nil)))))
def sch6 : Sch := .val .all 1 .i32 (.val .all 2 .i64 (.val .all 3 .i64 (.val .all 4 .bool (.val .all 5 .bool .nil))))
def ps : List (Nat × V) := [(2, .i (-1))]
def tabD : List (Nat × Rf) := [(19, .dflt T [(2, .i (-1))])]

theorem call19 : Callable Tryz.prog 19 := ⟨Tryz.f19, Tryz.func19, by kernel_rfl, by kernel_rfl⟩
theorem dfAll (eV : Value) : ∀ x ∈ tabD, Callable Tryz.prog x.1 ∧ RfOk Tryz.prog 1 eV x.1 x.2 := (all_cons ⟨call19, chkDf_ok Tryz.func19 (by kernel_rfl)⟩ all_nil)
def tab : List (Nat × Rf) := tabD ++ Seat.tabR
theorem rd (eV : Value) : ∀ f a, rfAt tab f = some a → Callable Tryz.prog f ∧ RfOk Tryz.prog 1 eV f a := rfAt_all fun x hx => (List.mem_append.1 hx).elim (dfAll eV x) (Seat.rdAll eV x)

/-! ### Its kinds and fields -/
abbrev eS : Ty := .uuid
abbrev eF : Ty := .uuid
def mkB (m : List V) (xS xF : V) (tl : List (Nat × List UInt8)) : V := .st (m ++ [xS, xF, .tags tl])
def cr : List Value := [.slice none 0 0, .slice none 0 0, .map none]
theorem ok6 {ver : Int} {fx : Bool} : okB ver fx sch6 = true := by cases fx <;> kernel_rfl
theorem rep6 {w : World} {D : Nat → Prop} {v : V} {c : List Value} (h : Rep w D T6 v c) : ∃ m, v = .st m ∧ m.length = 6 := by
  cases v <;> simp only [T6, Rep] at h
  rename_i l
  obtain ⟨a0, l0, x0, y0, rfl, rfl, _, _, h⟩ := h
  obtain ⟨a1, l1, x1, y1, rfl, rfl, _, _, h⟩ := h
  obtain ⟨a2, l2, x2, y2, rfl, rfl, _, _, h⟩ := h
  obtain ⟨a3, l3, x3, y3, rfl, rfl, _, _, h⟩ := h
  obtain ⟨a4, l4, x4, y4, rfl, rfl, _, _, h⟩ := h
  obtain ⟨a5, l5, x5, y5, rfl, rfl, _, _, h⟩ := h
  obtain ⟨rfl, rfl⟩ := h
  exact ⟨_, rfl, rfl⟩
theorem rep_all {w : World} {D : Nat → Prop} {m : List V} {c4 : List Value} {vS vF : V} {cS cF c : Value} {tl : List (Nat × List UInt8)} (h4 : Rep w D T6 (.st m) c4) (hS : Rep w D (.arr eS) vS [cS]) (hF : Rep w D (.arr eF) vF [cF]) (ht : Rep w D .tags (.tags tl) [c]) :
    Rep w D T (mkB m vS vF tl) (c4 ++ [cS, cF, c]) := by
  obtain ⟨a0, l0, x0, y0, h1, rfl, g0, r0, h4⟩ := h4
  cases h1
  obtain ⟨a1, l1, x1, y1, h1, rfl, g1, r1, h4⟩ := h4
  cases h1
  obtain ⟨a2, l2, x2, y2, h1, rfl, g2, r2, h4⟩ := h4
  cases h1
  obtain ⟨a3, l3, x3, y3, h1, rfl, g3, r3, h4⟩ := h4
  cases h1
  obtain ⟨a4, l4, x4, y4, h1, rfl, g4, r4, h4⟩ := h4
  cases h1
  obtain ⟨a5, l5, x5, y5, h1, rfl, g5, r5, h4⟩ := h4
  cases h1
  obtain ⟨rfl, rfl⟩ := h4
  rw [show (x0 ++ (x1 ++ (x2 ++ (x3 ++ (x4 ++ (x5 ++ [])))))) ++ [cS, cF, c] = x0 ++ (x1 ++ (x2 ++ (x3 ++ (x4 ++ (x5 ++ [cS, cF, c]))))) by simp]
  refine ⟨a0, _, x0, _, rfl, rfl, g0, r0, a1, _, x1, _, rfl, rfl, g1, r1, a2, _, x2, _, rfl, rfl, g2, r2, a3, _, x3, _, rfl, rfl, g3, r3, a4, _, x4, _, rfl, rfl, g4, r4, a5, _, x5, _, rfl, rfl, g5, r5, ?_⟩
  exact ⟨vS, _, [cS], _, rfl, rfl, rfl, hS, vF, _, [cF], _, rfl, rfl, rfl, hF, .tags tl, _, [c], _, rfl, rfl, rfl, ht, rfl, rfl⟩
/-- Where reading begins. -/
def l6 (ver : Int) : List V := [.i ver, .i 0, .i (-1), .i 0, .b false, .b false]
theorem v0Is (ver : Int) : V0 T ps ps ver = mkB (l6 ver) .arrN .arrN [] := by rfl
theorem split6 (ver : Int) (w : World) (c : List Value) (h : Rep w (fun _ => False) T (V0 T ps ps ver) c) : ∃ c4, c = c4 ++ cr ∧ Rep w (fun _ => False) T6 (.st (l6 ver)) c4 := by
  rw [v0Is] at h
  obtain ⟨a0, l0, x0, y0, h1, rfl, g0, r0, h⟩ := h
  cases h1
  obtain ⟨a1, l1, x1, y1, h1, rfl, g1, r1, h⟩ := h
  cases h1
  obtain ⟨a2, l2, x2, y2, h1, rfl, g2, r2, h⟩ := h
  cases h1
  obtain ⟨a3, l3, x3, y3, h1, rfl, g3, r3, h⟩ := h
  cases h1
  obtain ⟨a4, l4, x4, y4, h1, rfl, g4, r4, h⟩ := h
  cases h1
  obtain ⟨a5, l5, x5, y5, h1, rfl, g5, r5, h⟩ := h
  cases h1
  obtain ⟨a6, l6, x6, y6, h1, rfl, g6, r6, h⟩ := h
  cases h1
  obtain ⟨a7, l7, x7, y7, h1, rfl, g7, r7, h⟩ := h
  cases h1
  obtain ⟨a8, l8, x8, y8, h1, rfl, g8, r8, h⟩ := h
  cases h1
  obtain ⟨_, rfl⟩ := h
  have e4 : x6 = [.slice none 0 0] := r6
  have e5 : x7 = [.slice none 0 0] := r7
  have e8 : x8 = [.map none] := by
    rcases r8 with r8 | ⟨_, _, _, _, hf, _⟩
    · exact r8.1
    · exact hf.elim
  subst e4 e5 e8
  exact ⟨x0 ++ (x1 ++ (x2 ++ (x3 ++ (x4 ++ (x5 ++ []))))), by simp [cr], _, _, x0, _, rfl, rfl, g0, r0, _, _, x1, _, rfl, rfl, g1, r1, _, _, x2, _, rfl, rfl, g2, r2, _, _, x3, _, rfl, rfl, g3, r3, _, _, x4, _, rfl, rfl, g4, r4, _, _, x5, _, rfl, rfl, g5, r5, rfl, rfl⟩

/-! ### How it is written, plainly -/
def bodyU (nul : Bool) (v : V) : List UInt8 := encLen true nul v ++ v.elems.flatMap (encW true .uuid)
def tagB (xS xF : V) : Nat → List UInt8
  | 0 => bodyU false xS
  | 1 => bodyU true xF
  | _ => []
def keysOf (xS xF : V) : List Nat := ([] ++ (if xS.elems.length > 0 then [0] else [])) ++ (if xF.isNil = false then [1] else [])
def tagE (xS xF : V) (k : Nat) : List UInt8 := encTag (k, tagB xS xF k)
def encB (ver : Int) (m : List V) (xS xF : V) (tl : List (Nat × List UInt8)) : List UInt8 :=
  enc ver true sch6 (.st m) ++ (uvar (word ((keysOf xS xF).length + tl.length)) ++ ((keysOf xS xF).flatMap (tagE xS xF) ++ encEach tl))
/-- All tags, as they are written. -/
def allT (xS xF : V) (tl : List (Nat × List UInt8)) : List (Nat × List UInt8) := (keysOf xS xF).map (fun k => (k, tagB xS xF k)) ++ sortTags tl
structure GoodB (ver : Int) (m : List V) (xS xF : V) (tl : List (Nat × List UInt8)) : Prop where
  len : m.length = 6
  g6 : Go.Kx.Good ver true sch6 (.st m)
  uS : ∀ x ∈ xS.elems, ∃ l, x = .u l ∧ l.length = 16
  uF : ∀ x ∈ xF.elems, ∃ l, x = .u l ∧ l.length = 16
  lS : xS.elems.length ≤ 32767
  lF : xF.elems.length ≤ 32767
  nF : xF.isNil = false → 0 < xF.elems.length
  tags : GoodT tl
  key : ∀ x ∈ tl, 2 ≤ x.1
  many : tl.length ≤ 32767
theorem keys_mem {xS xF : V} {k : Nat} (h : k ∈ keysOf xS xF) : (k = 0 ∧ 0 < xS.elems.length) ∨ (k = 1 ∧ xF.isNil = false) := by
  unfold keysOf at h
  simp only [List.nil_append, List.mem_append] at h
  rcases h with h | h
  · split at h
    · rename_i h0; simp at h; exact .inl ⟨h, h0⟩
    · simp at h
  · split at h
    · rename_i h0; simp at h; exact .inr ⟨h, h0⟩
    · simp at h
theorem keys_len (xS xF : V) : (keysOf xS xF).length ≤ 2 := by
  unfold keysOf
  have h : ∀ (p : Prop) [Decidable p] (k : Nat), (if p then [k] else []).length ≤ 1 := fun p _ k => by split <;> simp
  have := h (xS.elems.length > 0) 0
  have := h (xF.isNil = false) 1
  simp only [List.length_append, List.length_nil]
  omega
theorem all_len (xS xF : V) (tl : List (Nat × List UInt8)) : (allT xS xF tl).length = (keysOf xS xF).length + tl.length := by
  unfold allT
  rw [List.length_append, List.length_map, sortTags_len]
theorem all_flat (xS xF : V) (tl : List (Nat × List UInt8)) : (allT xS xF tl).flatMap encTag = (keysOf xS xF).flatMap (tagE xS xF) ++ encEach tl := by
  unfold allT encEach
  rw [List.flatMap_append, List.flatMap_map]
  rfl
theorem flat16 : ∀ {vs : List V}, (∀ x ∈ vs, ∃ l, x = .u l ∧ l.length = 16) → (vs.flatMap (encW true .uuid)).length = vs.length * 16
  | [], _ => rfl
  | x :: vs, h => by
    obtain ⟨l, rfl, hl⟩ := h x (by simp)
    have e : (encW true .uuid (.u l)).length = 16 := hl
    rw [List.flatMap_cons, List.length_append, flat16 fun y hy => h y (by simp [hy]), e, List.length_cons]
    omega
theorem encLen_short (nul : Bool) (v : V) : (encLen true nul v).length ≤ 5 := by
  unfold encLen
  simp only [if_true]
  split
  · rw [uvar_len (by omega)]; decide
  · rw [uvar_len (word_lt _)]
    unfold uvLen
    repeat' split
    all_goals omega
theorem body_short {nul : Bool} {v : V} (h : ∀ x ∈ v.elems, ∃ l, x = .u l ∧ l.length = 16) (hl : v.elems.length ≤ 32767) : (bodyU nul v).length < 4294967296 := by
  unfold bodyU
  rw [List.length_append, flat16 h]
  have := encLen_short nul v
  omega

/-! ### How it lies while its tags are read -/
structure KS (w : World) (lo : Nat) (S : Nat → Prop) (g : Nat) (c4 : List Value) (cS cF c : Value) (vs vf : List V) (tl : List (Nat × List UInt8)) (DS DF DT : Nat → Prop) : Prop where
  blk : Blk w g 61 (c4 ++ [cS, cF, c])
  rowS : RowOf w eS.size cS
  rowF : RowOf w eF.size cF
  lstS : ∃ v : V, v.elems = vs ∧ Rep w DS (.arr eS) v [cS]
  lstF : ∃ v : V, v.elems = vf ∧ Rep w DF (.arr eF) v [cF]
  tm : TM w S DT c tl
  inS : ∀ k, DS k → S k ∨ (lo ≤ k ∧ k < w.heap.size)
  inF : ∀ k, DF k → S k ∨ (lo ≤ k ∧ k < w.heap.size)
  inT : ∀ k, DT k → lo ≤ k ∧ k < w.heap.size
  ownS : ∀ k, rowIs cS k → lo ≤ k ∧ ¬ DF k ∧ ¬ DT k
  ownF : ∀ k, rowIs cF k → lo ≤ k ∧ ¬ DS k ∧ ¬ DT k
  apart : ∀ k, DT k → ¬ DS k ∧ ¬ DF k

section
variable {w w' : World} {lo : Nat} {S : Nat → Prop} {g : Nat} {c4 : List Value} {cS cF c : Value} {vs vf : List V} {tl : List (Nat × List UInt8)} {DS DF DT : Nat → Prop}
theorem KS.keepB (h : KS w lo S g c4 cS cF c vs vf tl DS DF DT) (hb : Blk w' g 61 (c4 ++ [cS, cF, c])) (hs : w.heap.size ≤ w'.heap.size) (hk : ∀ k, S k ∨ (lo ≤ k ∧ k < w.heap.size) → w'.heap[k]? = w.heap[k]?) : KS w' lo S g c4 cS cF c vs vf tl DS DF DT := by
  refine ⟨hb, h.rowS.keep fun k hr => hk k (.inr ⟨(h.ownS k hr).1, h.rowS.lt hr⟩), h.rowF.keep fun k hr => hk k (.inr ⟨(h.ownF k hr).1, h.rowF.lt hr⟩), ?_, ?_, h.tm.keep (fun k hS => hk k (.inl hS)) fun k hD => ⟨hk k (.inr (h.inT k hD)), hD⟩, fun k hD => (h.inS k hD).imp id fun x => ⟨x.1, by omega⟩, fun k hD => (h.inF k hD).imp id fun x => ⟨x.1, by omega⟩, fun k hD => ⟨(h.inT k hD).1, by have := (h.inT k hD).2; omega⟩, h.ownS, h.ownF, h.apart⟩
  · obtain ⟨v, h1, h2⟩ := h.lstS
    exact ⟨v, h1, h2.keepMono (fun k hD => hk k (h.inS k hD)) fun k hD => hD⟩
  · obtain ⟨v, h1, h2⟩ := h.lstF
    exact ⟨v, h1, h2.keepMono (fun k hD => hk k (h.inF k hD)) fun k hD => hD⟩
theorem KS.keep (h : KS w lo S g c4 cS cF c vs vf tl DS DF DT) {r : Nat} (hc : Ch (fun k => k = r) w w') (hrg : r ≠ g) (hrS : ¬ S r) (hrl : r < lo) (hS : ∀ k, S k → k < w.heap.size) : KS w' lo S g c4 cS cF c vs vf tl DS DF DT :=
  h.keepB (h.blk.keep (hc.block g h.blk.lt (Ne.symm hrg))) hc.size fun k hk => by
    rcases hk with hk | hk
    · exact hc.block k (hS k hk) fun e => hrS (e ▸ hk)
    · exact hc.block k hk.2 (by omega)
theorem KS.calm (h : KS w lo S g c4 cS cF c vs vf tl DS DF DT) (hc : Ch (fun _ => False) w w') (hS : ∀ k, S k → k < w.heap.size) : KS w' lo S g c4 cS cF c vs vf tl DS DF DT :=
  h.keepB (h.blk.keep (hc.block g h.blk.lt fun h => h)) hc.size fun k hk => by
    rcases hk with hk | hk
    · exact hc.block k (hS k hk) fun h => h
    · exact hc.block k hk.2 fun h => h
/-- The first list is read anew. -/
theorem KS.setS (h : KS w lo S g c4 cS cF c vs vf tl DS DF DT) {cS' : Value} {vs' : List V} (hc : Ch (fun k => k = g ∨ rowIs cS k) w w') (hS : ∀ k, S k → k < lo ∧ k ≠ g) (hlo : lo ≤ w.heap.size) (hg : g < lo) (hb : Blk w' g 61 (c4 ++ [cS', cF, c])) (hrow : RowOf w' eS.size cS')
    (hl : ∃ v : V, v.elems = vs' ∧ Rep w' (fun k => S k ∨ rowIs cS k ∨ (w.heap.size ≤ k ∧ k < w'.heap.size)) (.arr eS) v [cS']) (hown : ∀ k, rowIs cS' k → rowIs cS k ∨ w.heap.size ≤ k) :
    KS w' lo S g c4 cS' cF c vs' vf tl (fun k => S k ∨ rowIs cS k ∨ (w.heap.size ≤ k ∧ k < w'.heap.size)) DF DT := by
  have hs := hc.size
  have kS : ∀ k, S k → w'.heap[k]? = w.heap[k]? := fun k hk => hc.block k (by have := (hS k hk).1; omega) fun h' => by
    rcases h' with h' | h'
    · exact (hS k hk).2 h'
    · have := (h.ownS k h').1; have := (hS k hk).1; omega
  have kF : ∀ k, DF k → w'.heap[k]? = w.heap[k]? := fun k hk => by
    rcases h.inF k hk with h1 | h1
    · exact kS k h1
    · exact hc.block k h1.2 fun h' => by
        rcases h' with h' | h'
        · omega
        · exact (h.ownS k h').2.1 hk
  have kT : ∀ k, DT k → w'.heap[k]? = w.heap[k]? := fun k hk => hc.block k (h.inT k hk).2 fun h' => by
    rcases h' with h' | h'
    · have := (h.inT k hk).1; omega
    · exact (h.ownS k h').2.2 hk
  have dS' : ∀ k, rowIs cS k → DS k := fun k hk => by
    obtain ⟨v, _, hr⟩ := h.lstS
    obtain ⟨mm, cc, rfl⟩ := hk
    cases v <;> simp only [Rep] at hr
    · cases hr
    · obtain ⟨b, c', h1, _, h2, _⟩ := hr
      cases h1
      exact h2
  have rF : ∀ k, rowIs cF k → ¬ rowIs cS k := fun k h1 h2 => (h.ownF k h1).2.1 (dS' k h2)
  refine ⟨hb, hrow, h.rowF.keep fun k hk => hc.block k (h.rowF.lt hk) fun h' => ?_, hl, ?_, h.tm.keep kS fun k hk => ⟨kT k hk, hk⟩, fun k hk => ?_, fun k hk => (h.inF k hk).imp id fun x => ⟨x.1, by omega⟩, fun k hk => ⟨(h.inT k hk).1, by have := (h.inT k hk).2; omega⟩, fun k hk => ?_, fun k hk => ⟨(h.ownF k hk).1, fun hd => ?_, (h.ownF k hk).2.2⟩, fun k hk => ⟨fun hd => ?_, (h.apart k hk).2⟩⟩
  · rcases h' with h' | h'
    · have := (h.ownF k hk).1; omega
    · exact rF k hk h'
  · obtain ⟨v, h1, h2⟩ := h.lstF
    exact ⟨v, h1, h2.keepMono kF fun k hD => hD⟩
  · rcases hk with h1 | h1 | h1
    · exact .inl h1
    · exact .inr ⟨(h.ownS k h1).1, by have := h.rowS.lt h1; omega⟩
    · exact .inr ⟨by omega, h1.2⟩
  · rcases hown k hk with h1 | h1
    · exact h.ownS k h1
    · refine ⟨by omega, fun hd => ?_, fun hd => by have := (h.inT k hd).2; omega⟩
      rcases h.inF k hd with h2 | h2
      · have := (hS k h2).1; omega
      · omega
  · rcases hd with h1 | h1 | h1
    · have := (hS k h1).1; have := (h.ownF k hk).1; omega
    · exact rF k hk h1
    · have := h.rowF.lt hk; omega
  · rcases hd with h1 | h1 | h1
    · have := (hS k h1).1; have := (h.inT k hk).1; omega
    · exact (h.ownS k h1).2.2 hk
    · have := (h.inT k hk).2; omega
/-- The second list is read anew. -/
theorem KS.setF (h : KS w lo S g c4 cS cF c vs vf tl DS DF DT) {cF' : Value} {vf' : List V} (hc : Ch (fun k => k = g ∨ rowIs cF k) w w') (hS : ∀ k, S k → k < lo ∧ k ≠ g) (hlo : lo ≤ w.heap.size) (hg : g < lo) (hb : Blk w' g 61 (c4 ++ [cS, cF', c])) (hrow : RowOf w' eF.size cF')
    (hl : ∃ v : V, v.elems = vf' ∧ Rep w' (fun k => S k ∨ rowIs cF k ∨ (w.heap.size ≤ k ∧ k < w'.heap.size)) (.arr eF) v [cF']) (hown : ∀ k, rowIs cF' k → rowIs cF k ∨ w.heap.size ≤ k) :
    KS w' lo S g c4 cS cF' c vs vf' tl DS (fun k => S k ∨ rowIs cF k ∨ (w.heap.size ≤ k ∧ k < w'.heap.size)) DT := by
  have hs := hc.size
  have kS : ∀ k, S k → w'.heap[k]? = w.heap[k]? := fun k hk => hc.block k (by have := (hS k hk).1; omega) fun h' => by
    rcases h' with h' | h'
    · exact (hS k hk).2 h'
    · have := (h.ownF k h').1; have := (hS k hk).1; omega
  have kF : ∀ k, DS k → w'.heap[k]? = w.heap[k]? := fun k hk => by
    rcases h.inS k hk with h1 | h1
    · exact kS k h1
    · exact hc.block k h1.2 fun h' => by
        rcases h' with h' | h'
        · omega
        · exact (h.ownF k h').2.1 hk
  have kT : ∀ k, DT k → w'.heap[k]? = w.heap[k]? := fun k hk => hc.block k (h.inT k hk).2 fun h' => by
    rcases h' with h' | h'
    · have := (h.inT k hk).1; omega
    · exact (h.ownF k h').2.2 hk
  have dS' : ∀ k, rowIs cF k → DF k := fun k hk => by
    obtain ⟨v, _, hr⟩ := h.lstF
    obtain ⟨mm, cc, rfl⟩ := hk
    cases v <;> simp only [Rep] at hr
    · cases hr
    · obtain ⟨b, c', h1, _, h2, _⟩ := hr
      cases h1
      exact h2
  have rF : ∀ k, rowIs cS k → ¬ rowIs cF k := fun k h1 h2 => (h.ownS k h1).2.1 (dS' k h2)
  refine ⟨hb, h.rowS.keep fun k hk => hc.block k (h.rowS.lt hk) fun h' => ?_, hrow, ?_, hl, h.tm.keep kS fun k hk => ⟨kT k hk, hk⟩, fun k hk => (h.inS k hk).imp id fun x => ⟨x.1, by omega⟩, fun k hk => ?_, fun k hk => ⟨(h.inT k hk).1, by have := (h.inT k hk).2; omega⟩, fun k hk => ⟨(h.ownS k hk).1, fun hd => ?_, (h.ownS k hk).2.2⟩, fun k hk => ?_, fun k hk => ⟨(h.apart k hk).1, fun hd => ?_⟩⟩
  · rcases h' with h' | h'
    · have := (h.ownS k hk).1; omega
    · exact rF k hk h'
  · obtain ⟨v, h1, h2⟩ := h.lstS
    exact ⟨v, h1, h2.keepMono kF fun k hD => hD⟩
  · rcases hk with h1 | h1 | h1
    · exact .inl h1
    · exact .inr ⟨(h.ownF k h1).1, by have := h.rowF.lt h1; omega⟩
    · exact .inr ⟨by omega, h1.2⟩
  · rcases hd with h1 | h1 | h1
    · have := (hS k h1).1; have := (h.ownS k hk).1; omega
    · exact rF k hk h1
    · have := h.rowS.lt hk; omega
  · rcases hown k hk with h1 | h1
    · exact h.ownF k h1
    · refine ⟨by omega, fun hd => ?_, fun hd => by have := (h.inT k hd).2; omega⟩
      rcases h.inS k hd with h2 | h2
      · have := (hS k h2).1; omega
      · omega
  · rcases hd with h1 | h1 | h1
    · have := (hS k h1).1; have := (h.inT k hk).1; omega
    · exact (h.ownF k h1).2.2 hk
    · have := (h.inT k hk).2; omega
/-- A tag that is not known is set. -/
theorem KS.setT (h : KS w lo S g c4 cS cF c vs vf tl DS DF DT) {c' : Value} {tl' : List (Nat × List UInt8)} (hc : Ch (fun k => k = g ∨ DT k) w w') (hS : ∀ k, S k → k < lo ∧ k ≠ g) (hlo : lo ≤ w.heap.size) (hg : g < lo) (hb : Blk w' g 61 (c4 ++ [cS, cF, c'])) (ht : TM w' S (fun k => DT k ∨ (w.heap.size ≤ k ∧ k < w'.heap.size)) c' tl') :
    KS w' lo S g c4 cS cF c' vs vf tl' DS DF (fun k => DT k ∨ (w.heap.size ≤ k ∧ k < w'.heap.size)) := by
  have hs := hc.size
  have kS : ∀ k, S k → w'.heap[k]? = w.heap[k]? := fun k hk => hc.block k (by have := (hS k hk).1; omega) fun h' => by
    rcases h' with h' | h'
    · exact (hS k hk).2 h'
    · have := (h.inT k h').1; have := (hS k hk).1; omega
  have kD : ∀ k, DS k ∨ DF k → k < w.heap.size ∧ ¬ DT k := fun k hk => by
    refine ⟨?_, fun h' => ?_⟩
    · rcases hk with hk | hk
      · rcases h.inS k hk with h1 | h1
        · have := (hS k h1).1; omega
        · exact h1.2
      · rcases h.inF k hk with h1 | h1
        · have := (hS k h1).1; omega
        · exact h1.2
    · rcases hk with hk | hk
      · exact (h.apart k h').1 hk
      · exact (h.apart k h').2 hk
  have kR : ∀ k, DS k ∨ DF k → w'.heap[k]? = w.heap[k]? := fun k hk => by
    by_cases hSk : S k
    · exact kS k hSk
    · refine hc.block k (kD k hk).1 fun h' => ?_
      rcases h' with h' | h'
      · subst h'
        rcases hk with hk | hk
        · rcases h.inS _ hk with h1 | h1
          · exact hSk h1
          · omega
        · rcases h.inF _ hk with h1 | h1
          · exact hSk h1
          · omega
      · exact (kD k hk).2 h'
  refine ⟨hb, h.rowS.keep fun k hk => hc.block k (h.rowS.lt hk) fun h' => ?_, h.rowF.keep fun k hk => hc.block k (h.rowF.lt hk) fun h' => ?_, ?_, ?_, ht, fun k hk => (h.inS k hk).imp id fun x => ⟨x.1, by omega⟩, fun k hk => (h.inF k hk).imp id fun x => ⟨x.1, by omega⟩, fun k hk => ?_, fun k hk => ⟨(h.ownS k hk).1, (h.ownS k hk).2.1, fun hd => ?_⟩, fun k hk => ⟨(h.ownF k hk).1, (h.ownF k hk).2.1, fun hd => ?_⟩, fun k hk => ?_⟩
  · rcases h' with h' | h'
    · have := (h.ownS k hk).1; omega
    · exact (h.ownS k hk).2.2 h'
  · rcases h' with h' | h'
    · have := (h.ownF k hk).1; omega
    · exact (h.ownF k hk).2.2 h'
  · obtain ⟨v, h1, h2⟩ := h.lstS
    exact ⟨v, h1, h2.keepMono (fun k hD => kR k (.inl hD)) fun k hD => hD⟩
  · obtain ⟨v, h1, h2⟩ := h.lstF
    exact ⟨v, h1, h2.keepMono (fun k hD => kR k (.inr hD)) fun k hD => hD⟩
  · rcases hk with h1 | h1
    · exact ⟨(h.inT k h1).1, by have := (h.inT k h1).2; omega⟩
    · exact ⟨by omega, h1.2⟩
  · rcases hd with h1 | h1
    · exact (h.ownS k hk).2.2 h1
    · have := h.rowS.lt hk; omega
  · rcases hd with h1 | h1
    · exact (h.ownF k hk).2.2 h1
    · have := h.rowF.lt hk; omega
  · rcases hk with h1 | h1
    · exact h.apart k h1
    · exact ⟨fun h' => by have := (kD k (.inl h')).1; omega, fun h' => by have := (kD k (.inr h')).1; omega⟩
end

end Go.Proofs.YtkgelojkhmjhkaaGreatDoor.BrokerHeartbeatRequest
