/- Library texts KnA Pre2 KnM, joined. -/
import Derived.Test.YtkgelojkhmjhkaaDoorKxKnR
import Derived.Test.YtkgelojkhmjhkaaDoorKxSaid
import Derived.Test.YtkgelojkhmjhkaaDoorKxAgain2
import Derived.Test.YtkgelojkhmjhkaaDoorKxRd2
import Derived.Test.YtkgelojkhmjhkaaDoorKxIn
import Derived.Test.YtkgelojkhmjhkaaDoorKxSortP
/- Rules for walks: frames pinned, blocks, the beginning of a writing function; tags' numbers beside the octets. -/
namespace Go.Kx
open Go.RowKit
set_option linter.unusedSimpArgs false
set_option linter.unusedVariables false

def pin : List (Nat × Value) → Fm → Fm
  | [], σ => σ
  | (k, v) :: l, σ => fun t => if t = k then v else pin l σ t
theorem pin_eq {σ : Fm} : ∀ {l : List (Nat × Value)}, (∀ x ∈ l, σ x.1 = x.2) → σ = pin l σ
  | [], _ => rfl
  | (k, v) :: l, h => by
    funext t
    simp only [pin]
    split
    · rename_i e; subst e; exact h (t, v) (by simp)
    · have := pin_eq (l := l) fun x hx => h x (by simp [hx])
      exact congrFun this t
theorem CW.pin {P : Program} {n : Nat} {c : Code} {σ : Fm} {w : World} {Q : Exit → Fm → World → Prop} (l : List (Nat × Value)) (h : ∀ x ∈ l, σ x.1 = x.2) (hc : ∀ σ', CWL P n (flat c) (Go.Kx.pin l σ') w Q) : CW P n c σ w Q := by
  refine CW.of_flat ?_
  rw [pin_eq h]
  exact hc σ
theorem all_pin {p : Nat × Value → Prop} {k : Nat} {v : Value} {l : List (Nat × Value)} (h : p (k, v)) (ht : ∀ x ∈ l, p x) : ∀ x ∈ (k, v) :: l, p x := by
  intro x hx
  rcases List.mem_cons.1 hx with rfl | hx
  · exact h
  · exact ht x hx
theorem Blk.ch {w w' : World} {g : Nat} {t : TypeId} {cs : List Value} (h : Blk w g t cs) (hc : Ch (fun _ => False) w w') : Blk w' g t cs := h.keep (hc.block g h.lt fun h => h)
section
variable {P : Program} {ρ : Operand → Value} {w : World} {K : Value → World → Prop} {d : Option Tmp} {ty : TypeId} {pos : String} {af : Array Edge} {gd : Option (Nat × Bool)}
theorem OpK.allocG {t : TypeId} {i : TypeInfo} {zs : List Value} (hi : P.info? t = some i) (hz : i.zero.map (·.cells) = some zs.toArray) (h : ∀ w1 g, Blk w1 g t zs → Ch (fun _ => False) w w1 → g = w.heap.size → w1.heap.size = w.heap.size + 1 → K (.pointer (some ⟨g, 0, none⟩)) w1) : OpK P ρ ⟨d, .alloc t, ty, pos, af, gd⟩ w K := by
  obtain ⟨z, hz1, hz2⟩ := Option.map_eq_some_iff.1 hz
  refine OpK.allocArr hi hz1 ?_
  rw [hz2]
  exact h _ _ (Blk.new w t zs) (Ch.alloc _ w _) rfl (by simp)
theorem OpK.storeG {x y : Operand} {t tb : TypeId} {g : Nat} {cs us : List Value} (hi : (P.info? t).map (·.size) = some us.length) (hx : ρ x = .pointer (some ⟨g, 0, none⟩)) (hy : ρ y = .agg us.toArray) (h1 : ∀ u ∈ us, u.oneCell' = true) (hb : Blk w g tb cs) (hl : cs.length = us.length)
    (h : ∀ w1, Blk w1 g tb us → Ch (fun k => k = g) w w1 → w1.heap.size = w.heap.size → K undef w1) : OpK P ρ ⟨d, .store t x y, ty, pos, af, gd⟩ w K := by
  refine OpK.storeAny (cur := cs) hi hx hy rfl h1 hb (by omega) ?_
  have hlt := hb.lt
  have e : splice cs us 0 = us := by unfold splice; simp [List.drop_of_length_le, hl]
  rw [e]
  have hset : ∀ k, (w.setRow g us.toArray).heap[k]? = if k = g then some (.cells us.toArray tb (0, 0)) else w.heap[k]? := fun k => by
    simp only [World.setRow, Array.getElem?_modify]
    by_cases hk : k = g
    · subst hk
      simp [show w.heap[k]? = _ from hb]
    · simp [hk, Ne.symm hk]
  refine h _ ?_ ⟨rfl, rfl, rfl, by simp [World.setRow], fun k _ hk => by rw [hset, if_neg hk]⟩ (by simp [World.setRow])
  unfold Blk
  rw [hset, if_pos rfl]
end
theorem OpK.allocZ {P : Program} {ρ : Operand → Value} {w : World} {K : Value → World → Prop} {d : Option Tmp} {ty : TypeId} {pos : String} {af : Array Edge} {gd : Option (Nat × Bool)} {t : TypeId} (zs : List Value) (hz : ((P.info? t).bind (·.zero)).map (·.cells) = some zs.toArray) (h : ∀ w1 g, Blk w1 g t zs → Ch (fun _ => False) w w1 → g = w.heap.size → w1.heap.size = w.heap.size + 1 → K (.pointer (some ⟨g, 0, none⟩)) w1) : OpK P ρ ⟨d, .alloc t, ty, pos, af, gd⟩ w K := by
  obtain ⟨z, hz1, hz2⟩ := Option.map_eq_some_iff.1 hz
  obtain ⟨i, hi, hz3⟩ := Option.bind_eq_some_iff.1 hz1
  exact OpK.allocG hi (by rw [hz3]; simp [hz2]) h
theorem CWL.pin {P : Program} {n : Nat} {cs : List Code} {σ : Fm} {w : World} {Q : Exit → Fm → World → Prop} (l : List (Nat × Value)) (h : ∀ x ∈ l, σ x.1 = x.2) (hc : ∀ σ', CWL P n cs (Go.Kx.pin l σ') w Q) : CWL P n cs σ w Q := by
  rw [pin_eq h]
  exact hc σ
theorem from_outside {cells cells' a z : List Value} {n : Nat} (h : Outside cells cells' 0 n) (hc : cells = a ++ z) (ha : a.length = n) : ∃ a', cells' = a' ++ z ∧ a'.length = n ∧ a' = (cells'.drop 0).take n := by
  obtain ⟨h1, h2⟩ := h
  subst hc
  rw [List.length_append] at h1
  refine ⟨(cells'.drop 0).take n, ?_, by rw [List.drop_zero, List.length_take]; omega, rfl⟩
  rw [List.drop_zero]
  apply List.ext_getElem?
  intro i
  by_cases hi : i < n
  · rw [List.getElem?_append_left (by rw [List.length_take]; omega), List.getElem?_take, if_pos hi]
  · rw [h2 i (by omega), List.getElem?_append_right (by omega), List.getElem?_append_right (by rw [List.length_take]; omega), List.length_take, ha]
    congr 1
    omega
section
variable {P : Program} {ρ : Operand → Value} {w : World} {K : Value → World → Prop} {d : Option Tmp} {ty : TypeId} {pos : String} {af : Array Edge} {g : Option (Nat × Bool)} 
theorem OpK.cmpNil {x : Operand} {t u : TypeId} {v : Value} {b : Bool} {ms : Array (String × TypeId)} (ht : P.underlying t = some (.interface ms)) (hx : ρ x = v) (hn : ρ (.const .nilIface) = .nilIface) (hv : (v = .nilIface ∧ b = false) ∨ (∃ t y, v = .iface t y) ∧ b = true) (h : K (.bool b) w) :
    OpK P ρ ⟨d, .binOp .neq t x (.const .nilIface) u, ty, pos, af, g⟩ w K := OpK.neqNilIface ht hx hn hv h
end
theorem all_pinE {σ : Fm} {k : Nat} {v : Value} {l : List (Nat × Value)} (h : σ k = v) (ht : ∀ x ∈ l, σ x.1 = x.2) : ∀ x ∈ (k, v) :: l, σ x.1 = x.2 := by
  intro x hx
  rcases List.mem_cons.1 hx with rfl | hx
  · exact h
  · exact ht x hx
theorem all_pinF {σ : Fm} {k : Nat} {v : Value} {l : List (Nat × Value)} (h : σ k = v) (ht : ∀ x ∈ l, σ x.1 = x.2) : ∀ x ∈ (k, v) :: l, σ x.1 = x.2 := by
  intro x hx
  rcases List.mem_cons.1 hx with rfl | hx
  · exact h
  · exact ht x hx
theorem Grew.new_ch {e : TypeId} {w w' : World} {d : Value} {bs : List UInt8} (h : Grew e w (.slice none 0 0) w' d bs) : Ch (fun _ => False) w w' := h.ch.mono fun i _ hi => by cases hi
theorem Grew.later {e : TypeId} {w w1 w2 : World} {d : Value} {bs : List UInt8} (h : Grew e w (.slice none 0 0) w1 d bs) (hc : Ch (fun _ => False) w1 w2) : Grew e w (.slice none 0 0) w2 d bs :=
  ⟨h.own.keep fun k hk => hc.block k (h.own.lt hk) fun h => h, h.ch.trans hc fun i _ h => h.elim, h.blk⟩
structure KW (e eK : TypeId) (w : World) (te : Value) (keys : List Nat) (wl : World) (d : Value) (bs : List UInt8) : Prop where
  grew : Grew e w (.slice none 0 0) wl d bs
  keys : KOwn eK wl te keys
  apart : ∀ k, te.ownBlock = some k → d.ownBlock ≠ some k
theorem KW.more {e eK : TypeId} {w : World} {te : Value} {keys : List Nat} {wl w2 : World} {d d2 : Value} {bs bs2 : List UInt8} (h : KW e eK w te keys wl d bs) (hg : Grew e wl d w2 d2 bs2) : KW e eK w te keys w2 d2 bs2 := by
  refine ⟨h.grew.trans hg, h.keys.keep fun k hk => hg.keep (h.keys.lt hk) (h.apart k hk), fun k hk hd => ?_⟩
  rcases hg.blk k hd with h1 | h1
  · exact h.apart k hk h1
  · have := h.keys.lt hk; omega
theorem KW.calm {e eK : TypeId} {w : World} {te : Value} {keys : List Nat} {wl w2 : World} {d : Value} {bs : List UInt8} (h : KW e eK w te keys wl d bs) (hc : Ch (fun _ => False) wl w2) : KW e eK w te keys w2 d bs :=
  ⟨h.grew.later hc, h.keys.keep fun k hk => hc.block k (h.keys.lt hk) fun h => h, h.apart⟩
theorem KOwn.form {e : TypeId} {w : World} {v : Value} {ks : List Nat} (h : KOwn e w v ks) : ∃ a c, v = .slice a ks.length c ∧ ∀ i k, ks[i]? = some k → ∃ a', a = some a' ∧ w.cell? (a'.add (i * 1)) = some (kv k) := by
  rcases h.2 with ⟨rfl, hn⟩ | ⟨g, cap, cur, rfl, hb, hg, hnc, hm, hs, ht⟩
  · refine ⟨none, 0, by rw [hn], fun i k hi => ?_⟩
    rw [List.eq_nil_of_length_eq_zero hn] at hi
    simp at hi
  · refine ⟨some ⟨g, 0, none⟩, cap, rfl, fun i k hi => ⟨_, rfl, ?_⟩⟩
    rw [Nat.mul_one]
    exact World.ownsRow.cells h (g := g) rfl i (kv k) (by simp [hi])
theorem KOwn.nil (e : TypeId) (w : World) : KOwn e w (.slice none 0 0) [] := World.ownsRow_nil w 0 e 1
theorem count_word (n m : Nat) : IntKind.u32.wrap (IntKind.i64.wrap ((n : Int) + (m : Int))) = ((word (n + m) : Nat) : Int) := by
  rw [IntKind.wrap_i64, IntKind.wrap_u32]
  unfold word
  omega
def preAP (P : Program) (tab : List (Nat × Ap)) (e : TypeId) (fn : Func) (T : Ty) (s : Sch) (m : Int) : Option ((Nat × Nat) × List Code) :=
  match fn.body with
  | some c => if fits fn.ntmps c && Nat.ble 2 fn.ntmps then match flat c with
    | c0 :: c1 :: c2 :: c3 :: c4 :: rest' => if isIdle [0, 1] c0 then match loadOf P [1, 0] 0 T 0 (.int .i16) c1 with
      | some ver => if isIdle [0, 1, ver] c2 then match flexOf [0, 1, ver] ver m c3 with
        | some fl => if isIdle [0, 1, ver, fl] c4 then match appS P tab e ⟨ver, some fl, 1⟩ s T 0 [0, ver, fl] rest' with
          | some l => some ((ver, fl), l)
          | none => none
          else none
        | none => none
        else none
      | none => none
      else none
    | _ => none
    else none
  | none => none
theorem preAP_use {P : Program} {full : Bool} {tab : List (Nat × Ap)} {e : TypeId} {f : FuncId} {fn : Func} {T : Ty} {s : Sch} {m : Int} {c : Code} {vr fl : Nat} (hbody : fn.body = some c) (n : Nat) (hs : Sound P e full tab) (hf : P.funcs[f]? = some fn) (h : preAP P tab e fn T s m = some ((vr, fl), (flat c).drop n))
    {w : World} {S : Nat → Prop} {g o : Nat} {v : V} {ver : Int} {d : Value} {bs : List UInt8} {R : Value → World → Prop} (hft : full = true ∨ noTags s v) (hi : Is w S g o T v) (hg : S g) (hver : v.fld 0 = .i ver) (hd : Own e w d bs) (hS : Clear w S d)
    (hl : bs.length + (enc ver (decide (ver ≥ m)) s v).length ≤ Lim)
    (hcont : ∀ σ' w', Grew e w d w' (σ' 1) (bs ++ enc ver (decide (ver ≥ m)) s v) → σ' 0 = .pointer (some ⟨g, o, none⟩) → σ' vr = .int .i16 ver → σ' fl = .bool (decide (ver ≥ m)) → CWL P fn.ntmps ((flat c).drop n) σ' w' (Ends fn R)) :
    Calls P f #[.pointer (some ⟨g, o, none⟩), d] w fun en w' => ∃ x, en = .returned x ∧ R x w' := by
  unfold preAP at h
  rw [hbody] at h
  simp only at h
  split at h
  · rename_i hfit
    simp only [Bool.and_eq_true] at hfit
    refine Calls.of_CW hf hbody hfit.1 (by simpa using hfit.2) (CW.of_flat ?_)
    split at h
    · rename_i c0 c1 c2 c3 c4 rest hflat
      split at h
      · rename_i h0
        split at h
        · rename_i ver' hl1
          split at h
          · rename_i h2
            split at h
            · rename_i fl' hfl
              split at h
              · rename_i h4
                split at h
                · rename_i l hap
                  simp only [Option.some.injEq, Prod.mk.injEq] at h
                  obtain ⟨⟨rfl, rfl⟩, hrest⟩ := h
                  rw [hflat]
                  refine CWL.idle h0 fun σ0 he0 => ?_
                  have hp0 : σ0 0 = .pointer (some ⟨g, o, none⟩) := (he0 0 (by simp)).trans rfl
                  have hd0 : σ0 1 = d := (he0 1 (by simp)).trans rfl
                  refine loadOf_sound hl1 hp0 hi fun σ1 he1 ⟨cs1, hr1, hv1⟩ => ?_
                  rw [hver] at hr1
                  obtain ⟨rfl, _⟩ : cs1 = [.int .i16 ver] ∧ _ := hr1
                  have hv1' : σ1 ver' = .int .i16 ver := hv1
                  refine CWL.idle h2 fun σ2 he2 => ?_
                  have hp2 : σ2 0 = .pointer (some ⟨g, o, none⟩) := (he2 0 (by simp)).trans ((he1 0 (by simp)).trans hp0)
                  have hd2 : σ2 1 = d := (he2 1 (by simp)).trans ((he1 1 (by simp)).trans hd0)
                  have hv2 : σ2 ver' = .int .i16 ver := (he2 ver' (by simp)).trans hv1'
                  refine flexOf_sound hfl hv2 fun σ3 he3 hfl3 => ?_
                  refine CWL.idle h4 fun σ4 he4 => ?_
                  have hp4 : σ4 0 = .pointer (some ⟨g, o, none⟩) := (he4 0 (by simp)).trans ((he3 0 (by simp)).trans hp2)
                  have hd4 : σ4 1 = d := (he4 1 (by simp)).trans ((he3 1 (by simp)).trans hd2)
                  have hv4 : σ4 ver' = .int .i16 ver := (he4 ver' (by simp)).trans ((he3 ver' (by simp)).trans hv2)
                  have hf4 : σ4 fl' = .bool (decide (ver ≥ m)) := (he4 fl' (by simp)).trans hfl3
                  have hst := appS_step (n := fn.ntmps) (ver := ver) (fx := decide (ver ≥ m)) hs hS (fun hx => by cases hx) s hap (by simp) (by simp) (fun t ht => by cases ht; simp) hi hg hft
                  refine hst σ4 w bs _ ⟨hv4, (fun t ht => by cases ht; exact hf4), hp4⟩ (by rw [hd4]; exact Grew.refl hd) hl fun σ5 w5 hg5 he5 => ?_
                  rw [hrest]
                  exact hcont σ5 w5 hg5 ((he5 0 (by simp)).trans hp4) ((he5 ver' (by simp)).trans hv4) ((he5 fl' (by simp)).trans hf4)
                · cases h
              · cases h
            · cases h
          · cases h
        · cases h
      · cases h
    · cases h
  · cases h
end Go.Kx

/- A reading function up to the tags that a message knows: what stands then; the fields of the tags are as Default left them. -/
namespace Go.Kx
open Go.RowKit
set_option linter.unusedSimpArgs false
set_option linter.unusedVariables false

def preW (P : Program) (tab : List (Nat × Rf)) (gE : Nat) (eV : Value) (tR : TypeId) (fn : Func) (T T4 : Ty) (s : Sch) (m : Int) (fx : Bool) : Option (List (Nat × V) × (Nat × Nat × Nat × Nat) × List Code) :=
  match fn.body, resTmp fn with
  | some c, some res => if fits fn.ntmps c && Nat.ble 3 fn.ntmps && noNul s then match flat c with
    | c0 :: c1 :: c2 :: c3 :: c4 :: c5 :: c6 :: c7 :: rest3 =>
      if isIdle [0, 1, 2] c0 then match dfltOf ⟨P, fn.ntmps, tab, gE, eV, res, ⟨0, none, 0⟩, 2⟩ [0, 1, 2] 0 T c1 with
      | some ps => match newRd tR [0, 2] 1 c2 with
        | some q => match loadOf P [0, 2, q] 0 T4 0 (.int .i16) c3 with
          | some ver => if isIdle [0, 2, q, ver] c4 then match flexOf [0, 2, q, ver] ver m c5 with
            | some fl => if isIdle [0, 2, q, ver, fl] c6 then match movOf [0, 2, q, ver, fl] 0 c7 with
                | some p => match rdS ⟨P, fn.ntmps, tab, gE, eV, res, ⟨ver, some fl, ver⟩, 2⟩ fx q s T4 p [p, 0, 2, q, ver, fl] rest3 with
                  | some l => some (ps, (q, ver, fl, p), l)
                  | none => none
                | none => none
              else none
            | none => none
            else none
          | none => none
        | none => none
      | none => none
      else none
    | _ => none
    else none
  | _, _ => none

theorem preW_calls {P : Program} {tab : List (Nat × Rf)} {gE : Nat} {eV : Value} {tR : TypeId} {f : FuncId} {fn : Func} {T T4 : Ty} {s : Sch} {m : Int} {fx : Bool} {ps : List (Nat × V)} {q vr fl p res : Nat} {rest : List Code} (hT : RdT P tR)
    (hX : ∀ f a, rfAt tab f = some a → Callable P f ∧ RfOk P gE eV f a) (hf : P.funcs[f]? = some fn) (hres0 : resTmp fn = some res) (h : preW P tab gE eV tR fn T T4 s m fx = some (ps, (q, vr, fl, p), rest)) {w : World} {S : Nat → Prop} {g : Nat} {tG : TypeId} {v0 : V} {l4 : List V} {cells cr : List Value} {src : Value} {l : List UInt8} {ver : Int} {R : Value → World → Prop}
    (hb : Blk w g tG cells) (hrep : Rep w (fun _ => False) T v0 cells) (hsplit : ∀ w c, Rep w (fun _ => False) T (v0.puts ps) c → ∃ c4, c = c4 ++ cr ∧ Rep w (fun _ => False) T4 (.st l4) c4) (herr : w.cell? ⟨gE, 0, none⟩ = some eV) (hgE : gE < w.heap.size ∧ gE ≠ g) (hsrc : SrcIs w S l src) (hS : ∀ k, S k → k < w.heap.size ∧ k ≠ g)
    (hver : (V.st l4).fld 0 = .i ver) (hfx : fx = decide (ver ≥ m)) (hok : okB ver fx s = true) (hst : startB s (.st l4) = true)
    (hearly : dec ver fx s (.st l4) l = none → ∀ w', Ch (fun k => k = g) w w' → R eV w')
    (hcont : ∀ (r : Nat) σ' w' v' s' c4', St (dec ver fx s (.st l4) l) v' s' → c4'.length = T4.size → Mem ⟨P, fn.ntmps, tab, gE, eV, res, ⟨vr, some fl, vr⟩, 2⟩ S (fun k => k = r ∨ k = g) r tR T4 g 0 tG w' v' s' (c4' ++ cr) → w.heap.size ≤ r → Ch (fun k => k = g) w w' → σ' q = .pointer (some ⟨r, 0, none⟩) → σ' p = .pointer (some ⟨g, 0, none⟩) →
      σ' vr = .int .i16 ver → σ' fl = .bool fx → σ' 2 = .bool false → CWL P fn.ntmps rest σ' w' (Ends fn R)) :
    Calls P f #[.pointer (some ⟨g, 0, none⟩), src, .bool false] w fun en w' => ∃ x, en = .returned x ∧ R x w' := by
  unfold preW at h
  split at h
  · rename_i c res' hbody hres
    obtain rfl : res = res' := Option.some.inj (hres0.symm.trans hres)
    split at h
    · rename_i hfit
      simp only [Bool.and_eq_true] at hfit
      refine Calls.of_CW hf hbody hfit.1.1 (by simpa using hfit.1.2) (CW.of_flat ?_)
      split at h
      · rename_i c0 c1 c2 c3 c4 c5 c6 c7 rest3 hflat
        rw [hflat]
        split at h
        · rename_i h0
          refine CWL.idle h0 fun σ0 he0 => ?_
          have hp0 : σ0 0 = .pointer (some ⟨g, 0, none⟩) := (he0 0 (by simp)).trans rfl
          have hs0 : σ0 1 = src := (he0 1 (by simp)).trans rfl
          have hu0 : σ0 2 = .bool false := (he0 2 (by simp)).trans rfl
          split at h
          · rename_i ps' hdf
            split at h
            · rename_i q' hnr
              split at h
              · rename_i vr' hld
                have hpsE0 : ps = ps' := by
                  revert h
                  repeat' split
                  all_goals intro h
                  all_goals first | (cases h; done) | (simp only [Option.some.injEq, Prod.mk.injEq] at h; exact h.1.symm)
                rw [hpsE0] at hsplit
                -- the function that lays the defaults
                have hD : ∀ {Q : Exit → Fm → World → Prop} {rest : List Code}, (∀ σ' w' c', Blk w' g tG c' → Rep w' (fun _ => False) T (v0.puts ps') c' → Ch (fun k => k = g) w w' → (∀ t ∈ [0, 1, 2], σ' t = σ0 t) → CWL P fn.ntmps rest σ' w' Q) →
                    CWL P fn.ntmps (c1 :: rest) σ0 w Q := by
                  intro Q rest hk
                  unfold dfltOf at hdf
                  split at hdf
                  · rename_i op ty b hc
                    split at hdf
                    · rename_i f' u2 hop
                      split at hdf
                      · rename_i T' ps2 htab
                        split at hdf
                        · rename_i hh
                          simp only [Option.some.injEq] at hdf
                          subst hdf
                          simp only [Bool.and_eq_true, beq_iff_eq, decide_eq_true_eq] at hh
                          obtain ⟨⟨rfl, rfl⟩, hfree⟩ := hh
                          obtain ⟨hcall, hrf⟩ := hX f' _ htab
                          refine CWL.reg hc (OpK.asCall hop hcall rfl ?_)
                          simp only [List.map_cons, List.map_nil, ev_tmp, enF_two, hp0]
                          have hcs := hrep.size
                          refine (hrf w (fun _ => False) g 0 tG cells v0 hb (by rw [List.drop_zero, List.take_of_length_le (by omega)]; exact hrep) (by omega) (fun h => h)).mono fun en w' ⟨he, c', hb', hr', hc'⟩ => ⟨_, he, ?_⟩
                          have hcl' := hr'.size
                          rw [show spl cells 0 c' = c' by unfold spl; rw [List.take_zero, List.nil_append, List.drop_of_length_le (by omega), List.append_nil]] at hb'
                          refine hk _ w' c' hb' hr' hc' fun t ht => ?_
                          rw [outF_free hfree ht, upd_odd _ _ _ _ (by omega), enF_two]
                        · cases hdf
                      · cases hdf
                    · cases hdf
                  · cases hdf
                refine hD fun σ1 w1 c' hb1 hr1 hc1 he1 => ?_
                obtain ⟨c4, rfl, hr4⟩ := hsplit w1 c' hr1
                have hsrc1 : SrcIs w1 S l src := hsrc.keep fun k hk => hc1.block k (hS k hk).1 (hS k hk).2
                obtain ⟨a, cc, hsl, _⟩ := hsrc1.form
                subst hsl
                refine newRd_sound hT hnr ((he1 1 (by simp)).trans hs0) fun σ2 he2 hq2 => ?_
                generalize hw2 : w1.alloc (.cells [Value.slice a l.length cc, .bool false].toArray tR) = w2
                have hc2 : Ch (fun _ => False) w1 w2 := hw2 ▸ Ch.alloc _ w1 _
                have hsz2 : w2.heap.size = w1.heap.size + 1 := by rw [← hw2]; simp
                have hbR : Blk w2 w1.heap.size tR [.slice a l.length cc, .bool false] := hw2 ▸ Blk.new w1 tR _
                have hgs : g < w1.heap.size := hb1.lt
                have hcl := hr4.size
                have hM : ∀ X : Cx, X.gE = gE → X.eV = eV → Mem X S (fun k => k = w1.heap.size ∨ k = g) w1.heap.size tR T4 g 0 tG w2 (.st l4) ⟨l, false⟩ (c4 ++ cr) := by
                  intro X hE hV
                  have htk : (((c4 ++ cr).drop 0).take T4.size) = c4 := by rw [List.drop_zero, List.take_append_of_le_length (by omega), List.take_of_length_le (by omega)]
                  refine ⟨⟨_, hbR, hsrc1.keep fun k hk => hc2.block k (Nat.lt_of_lt_of_le (hS k hk).1 hc1.size) fun h => h, fun h => ?_⟩, hb1.keep (hc2.block g hgs fun h => h), ?_, by rw [List.length_append]; omega, ?_, fun k hk => ?_, fun k hk => ⟨?_, fun hw => ?_⟩, .inl rfl, .inr rfl, by omega, ?_, ?_, ?_⟩
                  · have := (hS _ h).1; have := hc1.size; omega
                  · rw [htk]
                    exact hr4.keepMono (fun k hk => hk.elim) fun k hk => hk.elim
                  · rw [hE, hV]
                    rw [ch_cell hc2 (a := ⟨gE, 0, none⟩) (Nat.lt_of_lt_of_le hgE.1 hc1.size) (fun h => h) rfl, ch_cell hc1 (a := ⟨gE, 0, none⟩) hgE.1 hgE.2 rfl]
                    exact herr
                  · rcases hk with rfl | rfl <;> omega
                  · have := (hS k hk).1; have := hc1.size; omega
                  · rcases hw with rfl | rfl
                    · have := (hS _ hk).1; have := hc1.size; omega
                    · exact (hS _ hk).2 rfl
                  · rw [hE]; have := hc1.size; omega
                  · rw [hE]; have := hc1.size; omega
                  · rw [hE]; exact hgE.2
                have hp2 : σ2 0 = .pointer (some ⟨g, 0, none⟩) := (he2 0 (by simp)).trans ((he1 0 (by simp)).trans hp0)
                have hu2 : σ2 2 = .bool false := (he2 2 (by simp)).trans ((he1 2 (by simp)).trans hu0)
                have hMX := hM ⟨P, fn.ntmps, tab, gE, eV, res, ⟨0, none, 0⟩, 2⟩ rfl rfl
                have early : dec ver fx s (.st l4) l = none → ∀ σ' w', Ch (rg w1.heap.size g) w2 w' → σ' res = eV → Ends fn R .ret σ' w' := by
                  intro hd σ' w' hc' hσ'
                  simp only [Ends]
                  unfold resTmp at hres
                  split at hres
                  · rename_i t ht
                    simp only [Option.some.injEq] at hres
                    subst hres
                    refine ⟨_, by simp only [resOf, ht]; rfl, ?_⟩
                    rw [hσ']
                    refine hearly hd w' ?_
                    refine hc1.trans' ((hc2.mono fun _ _ h => h.elim : Ch (fun k => k = g) w1 w2).trans hc' fun i hi hT' => ?_)
                    rcases hT' with rfl | rfl
                    · omega
                    · rfl
                  · cases hres
                refine loadOf_sound hld hp2 hMX.is fun σ3 he3 ⟨cs3, hr3, hv3⟩ => ?_
                rw [hver] at hr3
                obtain ⟨rfl, _⟩ : cs3 = [.int .i16 ver] ∧ _ := hr3
                have hv3' : σ3 vr' = .int .i16 ver := hv3
                split at h
                · rename_i h4
                  refine CWL.idle h4 fun σ4 he4 => ?_
                  have hk4 : ∀ t ∈ [0, 2, q'], σ4 t = σ2 t := fun t ht => (he4 t (by simp at ht ⊢; rcases ht with h | h | h <;> simp [h])).trans (he3 t ht)
                  have hv4 : σ4 vr' = .int .i16 ver := (he4 vr' (by simp)).trans hv3'
                  have hq4 : σ4 q' = .pointer (some ⟨w1.heap.size, 0, none⟩) := (hk4 q' (by simp)).trans hq2
                  have hp4 : σ4 0 = .pointer (some ⟨g, 0, none⟩) := (hk4 0 (by simp)).trans hp2
                  have hu4 : σ4 2 = .bool false := (hk4 2 (by simp)).trans hu2
                  split at h
                  · rename_i fl' hfl
                    split at h
                    · rename_i h6
                      split at h
                      · rename_i p' hmv
                        split at h
                        · rename_i lst hrd
                          simp only [Option.some.injEq, Prod.mk.injEq] at h
                          obtain ⟨_, ⟨rfl, rfl, rfl, rfl⟩, rfl⟩ := h
                          refine flexOf_sound hfl hv4 fun σ5 he5 hf5 => ?_
                          refine CWL.idle h6 fun σ6 he6 => ?_
                          refine movOf_sound hmv fun σ7 he7 hp7 => ?_
                          have hk7 : ∀ t ∈ [0, 2, q', vr'], σ7 t = σ4 t := fun t ht => (he7 t (by simp at ht ⊢; rcases ht with h | h | h | h <;> simp [h])).trans ((he6 t (by simp at ht ⊢; rcases ht with h | h | h | h <;> simp [h])).trans (he5 t ht))
                          have hf7 : σ7 fl' = .bool fx := by rw [hfx, (he7 fl' (by simp)).trans (he6 fl' (by simp)), hf5]
                          have hp7' : σ7 p' = .pointer (some ⟨g, 0, none⟩) := hp7.trans (((he6 0 (by simp)).trans (he5 0 (by simp))).trans hp4)
                          have hXs : (⟨P, fn.ntmps, tab, gE, eV, res, ⟨vr', some fl', vr'⟩, 2⟩ : Cx).Sound := ⟨hX⟩
                          have hL : LIn ⟨P, fn.ntmps, tab, gE, eV, res, ⟨vr', some fl', vr'⟩, 2⟩ fx q' p' [p', 0, 2, q', vr', fl'] := ⟨by simp, fun x hx => by simp [Cx.kn] at hx; rcases hx with rfl | rfl <;> simp, by simp, by simp⟩
                          have hstep := rdS_step0 (X := ⟨P, fn.ntmps, tab, gE, eV, res, ⟨vr', some fl', vr'⟩, 2⟩) (S := S) (r := w1.heap.size) (tR := tR) (ver := ver) hXs s (.inl hfit.2) (W := fun k => k = w1.heap.size ∨ k = g) (g := g) (o := 0) (tG := tG) hrd hL hok
                          refine hstep σ7 w2 (some (.st l4, l)) (.st l4) ⟨l, false⟩ (c4 ++ cr) _ ⟨(hk7 vr' (by simp)).trans hv4, fun s b hm => ?_, (hk7 q' (by simp)).trans hq4, hp7'⟩ (fun x hx => by cases hx; exact hst) ⟨rfl, rfl⟩ (hM _ rfl rfl) (fun hn σ' w' hc' => early hn σ' w' hc') fun σ8 w8 v8 s8 cells8 hS8 hM8 hc8 ho8 he8 => ?_
                          · simp [Cx.kn] at hm
                            rcases hm with ⟨rfl, rfl⟩ | ⟨rfl, rfl⟩
                            · exact (hk7 2 (by simp)).trans hu4
                            · exact hf7
                          · obtain ⟨c4', hc4, hl4, _⟩ := from_outside ho8 rfl (by omega : c4.length = T4.size)
                            subst hc4
                            refine hcont w1.heap.size σ8 w8 v8 s8 c4' hS8 hl4 hM8 hc1.size ?_ ((he8 q' (by simp)).trans ((hk7 q' (by simp)).trans hq4)) ((he8 p' (by simp)).trans hp7') ((he8 vr' (by simp)).trans ((hk7 vr' (by simp)).trans hv4)) ((he8 fl' (by simp)).trans hf7) ((he8 2 (by simp)).trans ((hk7 2 (by simp)).trans hu4))
                            refine hc1.trans' ((hc2.mono fun _ _ h => h.elim : Ch (fun k => k = g) w1 w2).trans hc8 fun i hi hT' => ?_)
                            rcases hT' with rfl | rfl
                            · omega
                            · rfl
                        · cases h
                      · cases h
                    · cases h
                  · cases h
                · cases h
              · cases h
            · cases h
          · cases h
        · cases h
      · cases h
    · cases h
  · cases h
theorem preW_use {P : Program} {tab : List (Nat × Rf)} {gE : Nat} {eV : Value} {tR : TypeId} {f : FuncId} {fn : Func} {T T4 : Ty} {s : Sch} {m : Int} {fx : Bool} {ps : List (Nat × V)} {q vr fl p res : Nat} {c : Code} (hbody : fn.body = some c) (n : Nat) (hT : RdT P tR)
    (hX : ∀ f a, rfAt tab f = some a → Callable P f ∧ RfOk P gE eV f a) (hf : P.funcs[f]? = some fn) (hres0 : resTmp fn = some res) (h : preW P tab gE eV tR fn T T4 s m fx = some (ps, (q, vr, fl, p), (flat c).drop n)) {w : World} {S : Nat → Prop} {g : Nat} {tG : TypeId} {v0 : V} {l4 : List V} {cells cr : List Value} {src : Value} {l : List UInt8} {ver : Int} {R : Value → World → Prop}
    (hb : Blk w g tG cells) (hrep : Rep w (fun _ => False) T v0 cells) (hsplit : ∀ w c, Rep w (fun _ => False) T (v0.puts ps) c → ∃ c4, c = c4 ++ cr ∧ Rep w (fun _ => False) T4 (.st l4) c4) (herr : w.cell? ⟨gE, 0, none⟩ = some eV) (hgE : gE < w.heap.size ∧ gE ≠ g) (hsrc : SrcIs w S l src) (hS : ∀ k, S k → k < w.heap.size ∧ k ≠ g)
    (hver : (V.st l4).fld 0 = .i ver) (hfx : fx = decide (ver ≥ m)) (hok : okB ver fx s = true) (hst : startB s (.st l4) = true)
    (hearly : dec ver fx s (.st l4) l = none → ∀ w', Ch (fun k => k = g) w w' → R eV w')
    (hcont : ∀ (r : Nat) σ' w' v' s' c4', St (dec ver fx s (.st l4) l) v' s' → c4'.length = T4.size → Mem ⟨P, fn.ntmps, tab, gE, eV, res, ⟨vr, some fl, vr⟩, 2⟩ S (fun k => k = r ∨ k = g) r tR T4 g 0 tG w' v' s' (c4' ++ cr) → w.heap.size ≤ r → Ch (fun k => k = g) w w' → σ' q = .pointer (some ⟨r, 0, none⟩) → σ' p = .pointer (some ⟨g, 0, none⟩) →
      σ' vr = .int .i16 ver → σ' fl = .bool fx → σ' 2 = .bool false → CWL P fn.ntmps ((flat c).drop n) σ' w' (Ends fn R)) :
    Calls P f #[.pointer (some ⟨g, 0, none⟩), src, .bool false] w fun en w' => ∃ x, en = .returned x ∧ R x w' :=
  preW_calls hT hX hf hres0 h hb hrep hsplit herr hgE hsrc hS hver hfx hok hst hearly hcont
end Go.Kx

/- A message of which reading and writing are known as such: the law Any. -/
namespace Go.Kx
open Go.RowKit
set_option linter.unusedSimpArgs false
set_option linter.unusedVariables false

/-- What a reading function leaves: the error, or a part that is written as what was read would be. -/
def ReadsE (eV : Value) (T : Ty) (g : Nat) (tG : TypeId) (E : V → List UInt8) (res : Option (V × List UInt8)) (w : World) (x : Value) (w' : World) : Prop :=
  Ch (fun k => k = g) w w' ∧ match res with
  | some y => x = .nilIface ∧ ∃ v cells, Blk w' g tG cells ∧ cells.length = T.size ∧ Rep w' (fun k => k < w'.heap.size ∧ k ≠ g) T v cells ∧ E v = E y.1 ∧ v.fld 0 = y.1.fld 0
  | none => x = eV

/-- What is known of a message. -/
structure MsgE (P : Program) (e tG : TypeId) (gE : Nat) (T : Ty) (s : Sch) (ff : Option Int) (tab : List (Nat × Rf)) (F : AgF) (rf : FuncId) (ps ps' : List (Nat × V)) (most : Int) : Prop where
  rd : ∀ eV f a, rfAt tab f = some a → Callable P f ∧ RfOk P gE eV f a
  u8 : U8 P e
  np : ∃ fn, P.funcs[F.np]? = some fn ∧ chkNp P tab fn T = some (tG, ps) ∧ Callable P F.np
  sv : ∃ fn, P.funcs[F.sv]? = some fn ∧ chkSv P fn T = true ∧ Callable P F.sv
  rfn : ∃ fn, P.funcs[F.rf]? = some fn ∧ chkRF fn rf = true ∧ Callable P F.rf ∧ Callable P rf
  read : ∀ {w : World} {S : Nat → Prop} {g : Nat} {cells : List Value} {src : Value} {l : List UInt8} {tE : TypeId} {vE : Value} {ver : Int}, 0 ≤ ver → ver ≤ most → Blk w g tG cells → Rep w (fun _ => False) T (((zeroV T).puts ps).put 0 (.i ver)) cells →
    w.cell? ⟨gE, 0, none⟩ = some (.iface tE vE) → gE < w.heap.size ∧ gE ≠ g → SrcIs w S l src → (∀ k, S k → k < w.heap.size ∧ k ≠ g) →
    Calls P rf #[.pointer (some ⟨g, 0, none⟩), src, .bool false] w fun en w' => ∃ x, en = .returned x ∧ ReadsE (.iface tE vE) T g tG (enc ver (flexAt ff ver) s) (dec ver (flexAt ff ver) s (V0 T ps ps' ver) l) w x w'
  at_ : Callable P F.at_ ∧ ∀ {w : World} {g : Nat} {v : V} {ver : Int}, 0 ≤ ver → ver ≤ most → Is w (fun k => k < w.heap.size) g 0 T v → g < w.heap.size → v.fld 0 = .i ver → (enc ver (flexAt ff ver) s v).length ≤ Lim →
    Calls P F.at_ #[.pointer (some ⟨g, 0, none⟩), .slice none 0 0] w fun en w' => ∃ d', en = .returned d' ∧ Grew e w (.slice none 0 0) w' d' (enc ver (flexAt ff ver) s v)
  ok : ∀ ver, 0 ≤ ver → ver ≤ most → okB ver (flexAt ff ver) s = true
  start : ∀ ver, startB s ((((zeroV T).puts ps).put 0 (.i ver)).puts ps') = true
  ver : ∀ ver, ((((zeroV T).puts ps).put 0 (.i ver)).puts ps').fld 0 = .i ver
  key : s.keys.contains 0 = false
  most : most < 32768

theorem chkAgE_calls {P : Program} {e tG : TypeId} {gE : Nat} {T : Ty} {s : Sch} {ff : Option Int} {tab : List (Nat × Rf)} {F : AgF} {rf : FuncId} {ps ps' : List (Nat × V)} {most : Int}
    (M : MsgE P e tG gE T s ff tab F rf ps ps' most) {f : FuncId} {fn : Func} (hf : P.funcs[f]? = some fn) (h : chkAg P e fn F = true) {w : World} {S : Nat → Prop} {ver : Int} {src : Value} {l : List UInt8} {tE : TypeId} {vE : Value}
    (hv0 : 0 ≤ ver) (hvm : ver ≤ most) (hsrc : OctIs w S l src) (hS : ∀ k, S k → k < w.heap.size) (hl : l.length < 1073741824) (herr : w.cell? ⟨gE, 0, none⟩ = some (.iface tE vE)) (hgE : gE < w.heap.size) :
    Calls P f #[.int .i64 ver, src] w fun en w' => ∃ x b, en = .returned (.tuple #[x, .bool b]) ∧ Ch (fun _ => False) w w' ∧ AgIs w w' ((dec ver (flexAt ff ver) s (V0 T ps ps' ver) l).map fun y => enc ver (flexAt ff ver) s y.1) x b := by
  have hi16 : IntKind.i16.wrap ver = ver := by
    have := M.most
    have := i16_len (n := ver.toNat) (by omega)
    rw [show ((ver.toNat : Nat) : Int) = ver by omega] at this
    exact this
  unfold chkAg at h
  split at h
  · rename_i c r hbody hres
    simp only [Bool.and_eq_true] at h
    obtain ⟨⟨hfit, hn⟩, h⟩ := h
    split at h
    · rename_i c0 c1 c2 c3 t' A B c4 hflat
      simp only [Bool.and_eq_true] at h
      obtain ⟨h0, h⟩ := h
      split at h
      · rename_i o1 ty1 v b1 s16 t16 ty2 o2 ty3 b2 o3 ty4 o4 ty5 ti u1 ty6 t b3 o5 ty7 ty8 r2 r1 b4 hc1 hc2 hc3 hc4
        split at h
        · rename_i f1 f2 v2 ta tb f4 v4 f5 v5 ho1 ho2 ho3 ho4 ho5
          simp only [Bool.and_eq_true, beq_iff_eq, bne_iff_ne, ne_eq, List.isEmpty_iff] at h
          obtain ⟨⟨⟨⟨⟨⟨⟨⟨⟨⟨⟨⟨⟨⟨⟨⟨⟨⟨⟨⟨rfl, rfl⟩, rfl⟩, rfl⟩, rfl⟩, rfl⟩, rfl⟩, hs16⟩, ht16⟩, hoct⟩, rfl⟩, hif⟩, rfl⟩, hA⟩, hB⟩, hr1⟩, hr2⟩, hr12⟩, hf1⟩, hf2⟩, hf3⟩ := h
          refine (Calls.of_CW hf hbody hfit (by simpa using hn) (CW.of_flat ?_) (R := fun y w' => ∃ x b, y = .tuple #[x, .bool b] ∧ Ch (fun _ => False) w w' ∧ AgIs w w' ((dec ver (flexAt ff ver) s (V0 T ps ps' ver) l).map fun y => enc ver (flexAt ff ver) s y.1) x b)).mono fun en w' ⟨y, he, x, b, hy, hR⟩ => ⟨x, b, by rw [he, hy], hR⟩
          rw [hflat]
          refine CWL.idle h0 fun σ0 he0 => ?_
          have e0 : σ0 0 = .int .i64 ver := (he0 0 (by simp)).trans rfl
          have e1 : σ0 1 = src := (he0 1 (by simp)).trans rfl
          -- a new message
          obtain ⟨fnp, hnp1, hnp2, hnp3⟩ := M.np
          refine CWL.regG hc1 (OpK.asCall ho1 hnp3 rfl ?_)
          simp only [List.map_nil]
          refine (chkNp_calls (M.rd (.iface tE vE)) hnp1 hnp2 w).mono fun en w1 ⟨cells, he, hb1, hcl, hrep1, hch1⟩ => ⟨_, he, ?_⟩
          simp only [RC]
          intro σ1 hσ1
          have k1v : σ1 v = .pointer (some ⟨w.heap.size, 0, none⟩) := by rw [hσ1, outF_head]; simp
          have k1 : ∀ t ∈ [0, 1], σ1 t = σ0 t := fun t ht => by rw [hσ1, outF_free hf1 ht, upd_odd _ _ _ _ (by omega), enF_two]
          -- its version
          obtain ⟨fsv, hsv1, hsv2, hsv3⟩ := M.sv
          have htk : (cells.drop 0).take T.size = cells := by rw [List.drop_zero, List.take_of_length_le (by omega)]
          refine CWL.regG hc2 (OpK.convInt hs16 (isI16_spec ht16) (by simp only [ev_tmp]; exact (enF_two σ1 0).trans ((k1 0 (by simp)).trans e0)) ?_)
          rw [hi16]
          refine OpK.asCall ho2 hsv3 rfl ?_
          simp only [List.map_cons, List.map_nil, ev_tmp]
          rw [show upd (enF σ1) (some (2 * 0 + 1)) (Value.int .i16 ver) (2 * v) = .pointer (some ⟨w.heap.size, 0, none⟩) by rw [upd_odd _ _ _ _ (by omega), enF_two, k1v], show upd (enF σ1) (some (2 * 0 + 1)) (Value.int .i16 ver) 1 = .int .i16 ver from rfl]
          refine (chkSv_calls hsv1 hsv2 (S := fun _ => False) (v := (zeroV T).puts ps) hb1 (by rw [htk]; exact hrep1) (by omega) (fun h => h) hi16).mono fun en w2 ⟨he, c2', hb2, hrep2, hch2⟩ => ⟨_, he, ?_⟩
          simp only [RC]
          intro σ2 hσ2
          have k2 : ∀ t ∈ [1, v], σ2 t = σ1 t := fun t ht => by rw [hσ2, outF_free hf2 ht, upd_odd _ _ _ _ (by omega), upd_odd _ _ _ _ (by omega), enF_two]
          have hc2l := hrep2.size
          rw [splice_all (by omega)] at hb2
          have k2v : σ2 v = .pointer (some ⟨w.heap.size, 0, none⟩) := (k2 v (by simp)).trans k1v
          have k21 : σ2 1 = src := (k2 1 (by simp)).trans ((k1 1 (by simp)).trans e1)
          have hch12 : Ch (fun _ => False) w w2 := hch1.trans hch2 fun i hi e => by omega
          have hgs := hb2.lt
          -- a copy of the octets
          obtain rfl := asApp_spec ho3
          have hsrc2 : OctIs w2 S l src := hsrc.keep fun k hk => hch12.block k (hS k hk) fun h => h
          obtain ⟨a, cc, hsl, hnil, hO⟩ : ∃ a c, src = .slice a l.length c ∧ (a = none → l = []) ∧ ∀ a', a = some a' → Oct w2 a' l := by
            rcases hsrc2 with ⟨h1, h2⟩ | ⟨a, c, h1, h2, h3, h4⟩
            · exact ⟨none, 0, by rw [h1, h2]; rfl, fun _ => h2, fun _ h => by cases h⟩
            · exact ⟨some a, c, h1, (fun h => by cases h), fun a' h => by cases h; exact h4⟩
          have happ := run_append_oct (P := P) (w := w2) (t := ta) (ty := ty4) M.u8 (isOct_spec hoct) (Own.nil e w2) (a := a) (l := l) (c := cc) hnil hO (by simp only [List.length_nil, Lim]; omega)
          obtain ⟨d, w3, hrun, hgrew⟩ := happ
          rw [List.nil_append] at hgrew
          refine CWL.regG hc3 (OpK.run rfl (v := d) (w' := w3) ?_ ?_)
          · simp only [ev_tmp, ev_const]
            rw [show enF σ2 2 = src from (enF_two σ2 1).trans k21, hsl]
            exact hrun
          have hch3 : Ch (fun _ => False) w2 w3 := hgrew.ch.mono fun k _ hk => by simp [Value.ownBlock] at hk
          have hch13 : Ch (fun _ => False) w w3 := hch12.trans' hch3
          have hb3 := hb2.keep (hch3.block _ hgs fun h => h)
          have hdnew : ∀ k, d.ownBlock = some k → w2.heap.size ≤ k ∧ k < w3.heap.size := fun k hk => by
            refine ⟨?_, hgrew.own.lt hk⟩
            rcases hgrew.blk k hk with h' | h'
            · simp [Value.ownBlock] at h'
            · exact h'
          -- it is read
          obtain ⟨frf, hrf1, hrf2, hrf3, hrf4⟩ := M.rfn
          refine OpK.asCall ho4 hrf3 rfl ?_
          simp only [List.map_cons, List.map_nil, ev_tmp]
          rw [show upd (enF σ2) (some (2 * 0 + 1)) d (2 * v) = .pointer (some ⟨w.heap.size, 0, none⟩) by rw [upd_odd _ _ _ _ (by omega), enF_two, k2v], show upd (enF σ2) (some (2 * 0 + 1)) d 1 = d from rfl]
          have hrep3 : Rep w3 (fun _ => False) T ((((zeroV T).puts ps).put 0 (.i ver))) c2' := hrep2.keepMono (fun _ h => h.elim) fun _ h => h.elim
          have herr3 : w3.cell? ⟨gE, 0, none⟩ = some (.iface tE vE) := (ch_cell hch13 (a := ⟨gE, 0, none⟩) hgE (fun h => h) rfl).trans herr
          have hsz3 := hch13.size
          have hread := M.read (S := fun k => d.ownBlock = some k) hv0 hvm hb3 hrep3 herr3 ⟨by omega, by omega⟩ (own_src hgrew.own (by omega)) (fun k hk => ⟨(hdnew k hk).2, by have := (hdnew k hk).1; omega⟩)
          refine (chkRF_calls hrf1 hrf2 hrf4 hread).mono fun en w4 ⟨x, he, hto⟩ => ⟨x, he, ?_⟩
          obtain ⟨hch4, hto⟩ := hto
          have hch14 : Ch (fun _ => False) w w4 := hch13.trans hch4 fun i hi e => by omega
          obtain ⟨ms, hms⟩ := isIface_spec hif
          change match dec ver (flexAt ff ver) s (V0 T ps ps' ver) l with | some y => _ | none => _ at hto
          cases hd : dec ver (flexAt ff ver) s (V0 T ps ps' ver) l with
          | none =>
            rw [hd] at hto
            refine OpK.neqNilIface (b := true) hms (v := x) (by simp [upd]) rfl (.inr ⟨⟨tE, vE, hto⟩, rfl⟩) ?_
            simp only [RC]
            intro σ3 hσ3
            refine CWL.condT (by simp only [ev_tmp]; rw [hσ3, outF_head]; simp [upd]) (CWL.append ?_)
            unfold nilFalse at hA
            split at hA
            · rename_i cA hfA
              split at hA
              · rename_i ty9 ty10 q2 q1 b5 hcA
                simp only [Bool.and_eq_true, beq_iff_eq, bne_iff_ne, ne_eq] at hA
                obtain ⟨⟨rfl, rfl⟩, hq12⟩ := hA
                rw [hfA]
                refine CWL.reg hcA (OpK.assign (OpK.assign ?_))
                simp only [RC, ev_const]
                refine CWL.ret ?_
                simp only [Then, Ends]
                unfold resTwo at hres
                split at hres
                · rename_i a1 a2 hrs
                  simp only [Option.some.injEq] at hres
                  subst hres
                  refine ⟨_, by simp only [resOf, hrs]; rfl, .slice none 0 0, false, ?_, hch14, rfl, rfl⟩
                  simp only at hq12 ⊢
                  rw [outF_head]
                  simp [outF, look, Ne.symm hq12, upd]
                · cases hres
              · cases hA
            · cases hA
          | some y =>
            rw [hd] at hto
            obtain ⟨hx, v4, cells4, hb4, hl4, hrep4, henc4, hver4⟩ := hto
            refine OpK.neqNilIface (b := false) hms (v := x) (by simp [upd]) rfl (.inl ⟨hx, rfl⟩) ?_
            simp only [RC]
            intro σ3 hσ3
            have k3v : σ3 v = .pointer (some ⟨w.heap.size, 0, none⟩) := by
              rw [hσ3, outF_free hf3 (by simp), upd_odd _ _ _ _ (by omega), upd_odd _ _ _ _ (by omega), upd_odd _ _ _ _ (by omega), enF_two, k2v]
            refine CWL.condF (by simp only [ev_tmp]; rw [hσ3, outF_head]; simp [upd]) ?_
            rw [hB, List.nil_append]
            -- it is written
            obtain ⟨hat3, hat⟩ := M.at_
            obtain ⟨hgood, hlen, hkeep⟩ := dec_good s (M.ok ver hv0 hvm) (M.start ver) hl hd
            have hver : v4.fld 0 = .i ver := by
              rw [hver4]
              rw [hkeep 0 (by have := M.key; rw [List.contains_eq_mem, decide_eq_false_iff_not] at this; exact this)]
              exact M.ver ver
            have his : Is w4 (fun k => k < w4.heap.size) w.heap.size 0 T v4 := ⟨_, hrep4.mono fun k hk => hk.1, fun i u hu => by rw [hb4.cell, Nat.zero_add]; exact hu⟩
            refine CWL.regG hc4 (OpK.asCall ho5 hat3 rfl ?_)
            simp only [List.map_cons, List.map_nil, ev_tmp, ev_const]
            rw [show enF σ3 (2 * v) = .pointer (some ⟨w.heap.size, 0, none⟩) by rw [enF_two, k3v]]
            have hcall := hat (w := w4) (g := w.heap.size) (v := v4) (ver := ver) hv0 hvm his hb4.lt hver (by rw [henc4]; simp only [Lim]; omega)
            rw [henc4] at hcall
            refine hcall.mono fun en w5 ⟨d', he5, hg5⟩ => ⟨d', he5, ?_⟩
            refine OpK.assign ?_
            simp only [RC, ev_const]
            intro σ5 hσ5
            refine CWL.ret ?_
            simp only [Ends]
            unfold resTwo at hres
            split at hres
            · rename_i a1 a2 hrs
              simp only [Option.some.injEq] at hres
              subst hres
              have hch5 : Ch (fun _ => False) w4 w5 := hg5.ch.mono fun k _ hk => by simp [Value.ownBlock] at hk
              refine ⟨_, by simp only [resOf, hrs]; rfl, d', true, ?_, hch14.trans' hch5, rfl, ?_⟩
              · simp only at hr1 hr2
                subst hr1
                subst hr2
                rw [hσ5, outF_head]
                simp [outF, look, Ne.symm hr12, upd]
              · rcases own_oct hg5.own with h | ⟨a, c, h1, h2, h3, h4⟩
                · exact .inl h
                · refine .inr ⟨a, c, h1, h2, ?_, h4⟩
                  refine ⟨?_, hg5.own.lt h3⟩
                  rcases hg5.blk _ h3 with h' | h'
                  · simp [Value.ownBlock] at h'
                  · have := hch14.size; omega
            · cases hres
        · cases h
      · cases h
    · cases h
  · cases h

/-- THE LAW: whatever the octets. -/
theorem chkAnyE_calls {P : Program} {e tG : TypeId} {gE : Nat} {T : Ty} {s : Sch} {ff : Option Int} {tab : List (Nat × Rf)} {Fa : AgF} {rf : FuncId} {ps ps' : List (Nat × V)} {most : Nat}
    (M : MsgE P e tG gE T s ff tab Fa rf ps ps' (most : Int)) {F : AnyF} {f : FuncId} {fn fag : Func} (hf : P.funcs[f]? = some fn) (h : chkAny P fn F = true) (hv : VerIs P F.vf) (hmx : MaxIs P F.mx most) (hm1000 : most < 1000) (hsame : SameIs P F.same)
    (hag1 : P.funcs[F.ag]? = some fag) (hag2 : chkAg P e fag Fa = true) (hag3 : Callable P F.ag) {w : World} {S : Nat → Prop} {n : Nat} {src : Value} {l : List UInt8} {tE : TypeId} {vE : Value}
    (hn : n < 256) (hsrc : OctIs w S l src) (hS : ∀ k, S k → k < w.heap.size) (herr : w.cell? ⟨gE, 0, none⟩ = some (.iface tE vE)) (hgE : gE < w.heap.size) :
    Calls P f #[.int .u8 (n : Int), src] w fun en w' => en = .returned (.bool true) ∧ Ch (fun _ => False) w w' := by
  unfold chkAny at h
  split at h
  · rename_i c res hbody hres
    simp only [Bool.and_eq_true] at h
    obtain ⟨⟨hfit, hnt⟩, h⟩ := h
    split at h
    · rename_i c0 c1 t1 A1 B1 c2 c3 t3 A3 B3 c4 t4 A4 B4 c5 c6 t6 A6 B6 c7 c8 c9 hflat
      simp only [Bool.and_eq_true] at h
      obtain ⟨h0, h⟩ := h
      split at h
      · rename_i t1' o2 ty2 mo b2 u3 m2 u4 ty3 t3' b3 hg1 hc2 hc3
        split at h
        · rename_i f2 t4' a ok ho2 hg4 hva
          split at h
          · rename_i u6 ok2 ty6 t6' b6 b too hc6 hvb
            simp only [Bool.and_eq_true, beq_iff_eq, List.isEmpty_iff] at h
            obtain ⟨⟨⟨⟨⟨⟨⟨⟨⟨⟨⟨⟨⟨⟨⟨⟨⟨⟨rfl, rfl⟩, rfl⟩, rfl⟩, rfl⟩, rfl⟩, rfl⟩, hB1⟩, hB3⟩, hB4⟩, hB6⟩, hA1⟩, hA3⟩, hA4⟩, hA6⟩, hf2⟩, hf3⟩, hf6⟩, hend⟩ := h
            refine (Calls.of_CW hf hbody hfit (by simpa using hnt) (CW.of_flat ?_) (R := fun x w' => x = .bool true ∧ Ch (fun _ => False) w w')).mono fun en w' ⟨x, he, hx, hR⟩ => ⟨by rw [he, hx], hR⟩
            rw [hflat]
            obtain ⟨ad, cc, hsl⟩ : ∃ a c, src = .slice a l.length c := by
              rcases hsrc with ⟨h1, h2⟩ | ⟨a, c, h1, _⟩
              · exact ⟨none, 0, by rw [h1, h2]; rfl⟩
              · exact ⟨some a, c, h1⟩
            refine CWL.idle h0 fun σ0 he0 => ?_
            have e0 : σ0 0 = .int .u8 (n : Int) := (he0 0 (by simp)).trans rfl
            have e1 : σ0 1 = src := (he0 1 (by simp)).trans rfl
            refine lenGt_sound hg1 (e1.trans hsl) fun σ1 k1 ht1 => ?_
            by_cases hbig : ((l.length : Int) > 2147483647)
            · refine CWL.condT (by simp only [ev_tmp, ht1]; simp [hbig]) (CWL.append ?_)
              exact retB_sound hA1 hres (fun _ _ h => h) ⟨rfl, Ch.refl _ _⟩
            refine CWL.condF (by simp only [ev_tmp, ht1]; simp [hbig]) ?_
            rw [hB1, List.nil_append]
            refine CWL.regG hc2 (OpK.asCall ho2 hmx.1 rfl ?_)
            simp only [List.map_nil]
            refine (hmx.2 w).mono fun en w1 ⟨he, hch1⟩ => ⟨_, he, ?_⟩
            simp only [RC]
            intro σ2 hσ2
            have k2m : σ2 mo = .int .i64 (most : Int) := by rw [hσ2, outF_head]; simp
            have k2 : ∀ t ∈ [0, 1], σ2 t = σ0 t := fun t ht => by rw [hσ2, outF_free hf2 ht, upd_odd _ _ _ _ (by omega), enF_two]; exact k1 t ht
            refine CWL.regG hc3 (OpK.cmp (op := .lss) (k := .i64) (a := (most : Int)) (b := 0) rfl (by simp only [ev_tmp, enF_two]; exact k2m) rfl ?_)
            simp only [RC]
            intro σ3 hσ3
            have k3 : ∀ t ∈ [0, 1, mo], σ3 t = σ2 t := fun t ht => by rw [hσ3, outF_free hf3 ht, upd_odd _ _ _ _ (by omega), enF_two]
            refine CWL.condF (by simp only [ev_tmp]; rw [hσ3, outF_head]; simp [upd]) ?_
            rw [hB3, List.nil_append]
            have e31 : σ3 1 = src := (k3 1 (by simp)).trans ((k2 1 (by simp)).trans e1)
            refine lenGt_sound hg4 (e31.trans hsl) fun σ4 k4 ht4 => ?_
            by_cases hbig2 : ((l.length : Int) > 1000)
            · refine CWL.condT (by simp only [ev_tmp, ht4]; simp [hbig2]) (CWL.append ?_)
              exact retB_sound hA4 hres (fun _ _ h => h) ⟨rfl, hch1⟩
            refine CWL.condF (by simp only [ev_tmp, ht4]; simp [hbig2]) ?_
            rw [hB4, List.nil_append]
            have e40 : σ4 0 = .int .u8 (n : Int) := (k4 0 (by simp)).trans ((k3 0 (by simp)).trans ((k2 0 (by simp)).trans e0))
            have e41 : σ4 1 = src := (k4 1 (by simp)).trans e31
            have e4m : σ4 mo = .int .i64 (most : Int) := (k4 mo (by simp)).trans ((k3 mo (by simp)).trans k2m)
            -- the version
            have hver0 : (0 : Int) ≤ ((n % (most + 1) : Nat) : Int) := by omega
            have hverm : ((n % (most + 1) : Nat) : Int) ≤ (most : Int) := by have := Nat.mod_lt n (show 0 < most + 1 by omega); omega
            generalize hvd : ((n % (most + 1) : Nat) : Int) = ver at hver0 hverm
            have hsrc1 : OctIs w1 S l src := hsrc.keep fun k hk => hch1.block k (hS k hk) fun h => h
            have herr1 : w1.cell? ⟨gE, 0, none⟩ = some (.iface tE vE) := (ch_cell hch1 (a := ⟨gE, 0, none⟩) hgE (fun h => h) rfl).trans herr
            have hs1 := hch1.size
            refine verAg_sound hva hv hag3 (R := fun x b w' => Ch (fun _ => False) w1 w' ∧ AgIs w1 w' ((dec ver (flexAt ff ver) s (V0 T ps ps' ver) l).map fun y => enc ver (flexAt ff ver) s y.1) x b) (k := n) (most := most) (vs := src) e40 hn e4m hm1000 e41 (by rw [hvd]; exact chkAgE_calls M hag1 hag2 (ver := ver) hver0 hverm hsrc1 (fun k hk => Nat.lt_of_lt_of_le (hS k hk) hs1) (by omega) herr1 (by omega)) fun σ5 w5 x b' ⟨hch5, hag5⟩ k5 h5a h5k => ?_
            have hch05 : Ch (fun _ => False) w w5 := hch1.trans' hch5
            refine CWL.regG hc6 (OpK.not (b := b') (by simp only [ev_tmp, enF_two]; exact h5k) ?_)
            simp only [RC]
            intro σ6 hσ6
            have k6 : ∀ t ∈ [0, mo, a], σ6 t = σ5 t := fun t ht => by rw [hσ6, outF_free hf6 ht, upd_odd _ _ _ _ (by omega), enF_two]
            have ht6 : σ6 t6 = .bool (!b') := by rw [hσ6, outF_head]; simp [upd]
            cases hd : dec ver (flexAt ff ver) s (V0 T ps ps' ver) l with
            | none =>
              rw [hd] at hag5
              obtain ⟨rfl, _⟩ := hag5
              refine CWL.condT (by simp only [ev_tmp, ht6]; rfl) (CWL.append ?_)
              exact retB_sound hA6 hres (fun _ _ h => h) ⟨rfl, hch05⟩
            | some y =>
              rw [hd] at hag5
              obtain ⟨rfl, hoct⟩ := hag5
              refine CWL.condF (by simp only [ev_tmp, ht6]; rfl) ?_
              rw [hB6, List.nil_append]
              -- what was read is read again
              have hok := M.ok ver hver0 hverm
              obtain ⟨hgood, hlen, _⟩ := dec_good s hok (M.start ver) (by omega) hd
              obtain ⟨v', hd2, henc, _⟩ := dec_enc s [] hok (M.start ver) hgood
              rw [List.append_nil] at hd2
              have herr5 : w5.cell? ⟨gE, 0, none⟩ = some (.iface tE vE) := (ch_cell hch05 (a := ⟨gE, 0, none⟩) hgE (fun h => h) rfl).trans herr
              have hs5 := hch05.size
              refine verAg_sound hvb hv hag3 (R := fun x' b w' => Ch (fun _ => False) w5 w' ∧ AgIs w5 w' ((dec ver (flexAt ff ver) s (V0 T ps ps' ver) (enc ver (flexAt ff ver) s y.1)).map fun y => enc ver (flexAt ff ver) s y.1) x' b) (k := n) (most := most) (vs := x) ((k6 0 (by simp)).trans ((k5 0 (by simp)).trans e40)) hn ((k6 mo (by simp)).trans ((k5 mo (by simp)).trans e4m)) hm1000 ((k6 a (by simp)).trans h5a)
                (by rw [hvd]; exact chkAgE_calls M hag1 hag2 (ver := ver) hver0 hverm hoct (fun k hk => hk.2) (by omega) herr5 (by omega)) fun σ7 w7 x2 b2' ⟨hch7, hag7⟩ k7 h7b h7t => ?_
              have hd3 : dec ver (flexAt ff ver) s (V0 T ps ps' ver) (enc ver (flexAt ff ver) s y.1) = some (v', []) := hd2
              rw [hd3] at hag7
              simp only [Option.map_some, AgIs] at hag7
              obtain ⟨rfl, hoct7⟩ := hag7
              rw [henc] at hoct7
              have hoct7a : OctIs w7 (fun k => k < w7.heap.size) (enc ver (flexAt ff ver) s y.1) x := by
                have := hoct.keep (w' := w7) fun k hk => hch7.block k hk.2 fun h => h
                rcases this with h | ⟨a1, c1, h1, h2, h3, h4⟩
                · exact .inl h
                · exact .inr ⟨a1, c1, h1, h2, Nat.lt_of_lt_of_le h3.2 hch7.size, h4⟩
              have hoct7b : OctIs w7 (fun k => k < w7.heap.size) (enc ver (flexAt ff ver) s y.1) x2 := by
                rcases hoct7 with h | ⟨a1, c1, h1, h2, h3, h4⟩
                · exact .inl h
                · exact .inr ⟨a1, c1, h1, h2, h3.2, h4⟩
              refine sameEnd_sound hend hsame hres (va := x) (vb := x2) ((k7 a (by simp)).trans ((k6 a (by simp)).trans h5a)) h7b h7t hoct7a hoct7b (fun k hk => hk) (by omega) (by omega) fun w' hc' => ⟨by simp, (hch05.trans' hch7).trans' hc'⟩
          · cases h
        · cases h
      · cases h
    · cases h
  · cases h
end Go.Kx
