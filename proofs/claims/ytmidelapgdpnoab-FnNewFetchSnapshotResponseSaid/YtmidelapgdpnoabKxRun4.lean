/- One operation over plain data: what it makes of the blocks; that the machine does the same. -/
import Derived.Test.YtmidelapgdpnoabKxRun3
namespace Go.Kx
open Go.RowKit
set_option linter.unusedSimpArgs false
set_option linter.unusedVariables false

/-- What is appended: none; or the things of a slice. -/
def news (P : Program) (h : AH) (u e : TypeId) (size : Nat) : AV → Option (Nat × List AC)
  | .c (.lit (.slice none 0 0)) => match P.underlying u with | some (.slice _) => some (0, []) | _ => none
  | .c (.lit (.string ⟨⟨[]⟩⟩)) => match P.underlying u with | some .string => some (0, []) | _ => none
  | .c (.sl b n _) => match P.underlying u, h.get b with
    | some (.slice e'), some B => if e = e' && Nat.ble (n * size) B.cs.length && (B.cs.take (n * size)).all AC.one then some (n, B.cs.take (n * size)) else none
    | _, _ => none
  | _ => none

def rowOk (size n : Nat) : Option Nat → Option Nat → Bool
  | some s, none => Nat.beq s size
  | none, some c => Nat.beq c n
  | _, _ => false

/-- What is appended to: nothing; or a block's things, all of them. -/
def base (h : AH) (e : TypeId) (size : Nat) : AV → Option (Option Nat × Nat × List AC)
  | .c (.lit (.slice none 0 0)) => some (none, 0, [])
  | .c (.sl b n c) => match h.get b with
    | some B => if B.e = e && Nat.beq B.cs.length (n * size) && rowOk size n B.row c then some (some b, n, B.cs) else none
    | none => none
  | _ => none

def aappend (P : Program) (h : AH) (t u : TypeId) (v x : AV) : Option (AV × AH) :=
  match P.underlying t with
  | some (.slice e) => match P.info? e with
    | some i => match i.zero with
      | some z =>
        match news P h u e i.size x, base h e i.size v with
        | some (m, cs), some (b, n, bs) =>
          if Nat.beq m 0 then some (v, h)
          else if Nat.beq u t && Nat.beq z.cells.size i.size && Nat.blt 0 i.size && Nat.ble ((n + m) * (i.bytes + 1)) 1048576 then
            match b with
            | none => some (.c (.sl h.n m none), h.push ⟨e, some i.size, cs⟩)
            | some b => some (.c (.sl h.n (n + m) none), (h.put b none).push ⟨e, some i.size, bs ++ cs⟩)
          else none
        | _, _ => none
      | none => none
    | none => none
  | _ => none

/-- A block is given up, another takes its cells: the row that append hands back. -/
theorem Hp.grow {w0 : World} {E : En} {h : AH} {w w' : World} (k : Hp w0 E h w) (dead : Option Nat) {B : AB} {p : Nat × Nat} {row : Option Nat} (hd : ∀ b, dead = some b → b < h.n ∧ ∃ q B0, E[b]? = some q ∧ h.get b = some B0 ∧ row = some q.1) (hd0 : dead = none → row = none)
    (hg : w.grownBy w' row) (hB : BlkIs E w' p B) (hp : (∃ b q, dead = some b ∧ E[b]? = some q ∧ p.1 = q.1) ∨ p.1 = w.heap.size) (hpl : p.1 < w'.heap.size) :
    Hp w0 (E ++ [p]) ((match dead with | some b => h.put b none | none => h).push B) w' := by
  -- the heap with the old block given up
  have hE : Le E (E ++ [p]) := Le.snoc _ _
  generalize hh : (match dead with | some b => h.put b none | none => h) = h1
  have hn1 : h1.n = h.n := by subst hh; cases dead <;> rfl
  have hl1 : h1.l.length = h1.n := by
    subst hh
    cases dead with
    | none => exact k.len
    | some b => simp [AH.put, k.len]
  have hget : ∀ i c, h1.get i = some c → h.get i = some c ∧ dead ≠ some i := by
    intro i c hc
    subst hh
    cases dead with
    | none => exact ⟨hc, by simp⟩
    | some b =>
      rw [show (match some b with | some b => h.put b none | none => h) = h.put b none from rfl, AH.get_put h k.len b (hd b rfl).1] at hc
      split at hc
      · cases hc
      · rename_i hi; exact ⟨hc, fun e => hi (by cases e; rfl)⟩
  have hrow : ∀ g, row = some g → ∃ b q B0, dead = some b ∧ E[b]? = some q ∧ h.get b = some B0 ∧ q.1 = g := by
    intro g hgr
    cases hdd : dead with
    | none => rw [hd0 hdd] at hgr; cases hgr
    | some b =>
      obtain ⟨_, q, B0, hq, hb0, hr⟩ := hd b hdd
      rw [hr] at hgr; cases hgr
      exact ⟨b, q, B0, rfl, hq, hb0, rfl⟩
  have keepb : ∀ i c q, h1.get i = some c → E[i]? = some q → w'.heap[q.1]? = w.heap[q.1]? := by
    intro i c q hc hq
    obtain ⟨hc', hne⟩ := hget i c hc
    refine hg.block _ (k.low i c q hc' hq).2 fun e => ?_
    obtain ⟨b, r, B0, hb, hr, hb0, he⟩ := hrow q.1 e.symm
    exact hne (by rw [hb, k.inj b i B0 c r q hb0 hc' hr hq he])
  have hG := AH.get_push h1 hl1 B
  refine ⟨hg.os.trans k.os, hg.tape.trans k.tape, hg.output.trans k.output, Nat.le_trans k.size hg.size, fun j hj => ?_, by simp [AH.push, k.en, hn1], by simp [AH.push, hl1], ?_, ?_, ?_⟩
  · refine (hg.block j (Nat.lt_of_lt_of_le hj k.size) fun e => ?_).trans (k.old j hj)
    obtain ⟨b, q, B0, _, hq, hb0, he⟩ := hrow j e.symm
    have := (k.low b B0 q hb0 hq).1
    omega
  · intro i c hc
    rw [hG] at hc
    by_cases hi : i = h1.n
    · rw [if_pos hi] at hc
      cases hc
      refine ⟨p, by rw [hi, hn1, ← k.en]; exact get_snoc _ _, hB.keep hE rfl⟩
    · rw [if_neg hi] at hc
      obtain ⟨q, hq, hC⟩ := k.rd i c (hget i c hc).1
      exact ⟨q, hE _ _ hq, hC.keep hE (keepb i c q hc hq)⟩
  · intro i c q hc hq
    rw [hG] at hc
    by_cases hi : i = h1.n
    · rw [hi, hn1, ← k.en, get_snoc] at hq
      cases hq
      refine ⟨?_, hpl⟩
      rcases hp with ⟨b, q, hb, hq, he⟩ | he
      · obtain ⟨_, q', B0, hq', hb0, _⟩ := hd b hb
        rw [hq] at hq'; cases hq'
        rw [he]; exact (k.low b B0 q hb0 hq).1
      · rw [he]; exact k.size
    · rw [if_neg hi] at hc
      have hc' := (hget i c hc).1
      have hlt : i < E.length := by rw [k.en]; exact AH.get_lt hc'
      rw [List.getElem?_append_left hlt] at hq
      have := k.low i c q hc' hq
      exact ⟨this.1, Nat.lt_of_lt_of_le this.2 hg.size⟩
  · -- no two in one place
    have new_ne : ∀ j d q, h1.get j = some d → E[j]? = some q → p.1 ≠ q.1 := by
      intro j d q hd' hq he
      obtain ⟨hd1, hne⟩ := hget j d hd'
      rcases hp with ⟨b, r, hb, hr, he'⟩ | he'
      · obtain ⟨_, q', B0, hq', hb0, _⟩ := hd b hb
        rw [hr] at hq'; cases hq'
        exact hne (by rw [hb, k.inj b j B0 d r q hb0 hd1 hr hq (he'.symm.trans he)])
      · have := (k.low j d q hd1 hq).2
        omega
    intro i j c d q r hc hd' hq hr he
    rw [hG] at hc hd'
    by_cases hi : i = h1.n
    · by_cases hj : j = h1.n
      · rw [hi, hj]
      · rw [hi, hn1, ← k.en, get_snoc] at hq; cases hq
        rw [if_neg hj] at hd'
        have hlt : j < E.length := by rw [k.en]; exact AH.get_lt (hget j d hd').1
        rw [List.getElem?_append_left hlt] at hr
        exact absurd he (new_ne j d r hd' hr)
    · rw [if_neg hi] at hc
      have hlt : i < E.length := by rw [k.en]; exact AH.get_lt (hget i c hc).1
      rw [List.getElem?_append_left hlt] at hq
      by_cases hj : j = h1.n
      · rw [hj, hn1, ← k.en, get_snoc] at hr; cases hr
        exact absurd he.symm (new_ne i c q hc hq)
      · rw [if_neg hj] at hd'
        have hlt' : j < E.length := by rw [k.en]; exact AH.get_lt (hget j d hd').1
        rw [List.getElem?_append_left hlt'] at hr
        exact k.inj i j c d q r (hget i c hc).1 (hget j d hd').1 hq hr he


theorem one_all {E : En} : ∀ {l : List AC} {us : List Value}, All2 (AC.is E) l us → l.all AC.one = true → ∀ u ∈ us, u.oneCell' = true := by
  intro l us h
  induction h with
  | nil => intro _ u hu; cases hu
  | cons h1 _ ih =>
    intro ho u hu
    simp only [List.all_cons, Bool.and_eq_true] at ho
    rcases List.mem_cons.1 hu with rfl | hu
    · exact h1.one ho.1
    · exact ih ho.2 u hu

/-- What is appended, in memory. -/
theorem news_mem {P : Program} {E : En} {h : AH} {w0 w : World} {u e : TypeId} {size m : Nat} {x : AV} {vx : Value} {cs : List AC} (k : Hp w0 E h w) (hx : x.is E vx) (hn : news P h u e size x = some (m, cs)) :
    (m = 0 ∧ (P.underlying u = some .string ∨ ∃ e', P.underlying u = some (.slice e')) ∧ (vx = .slice none 0 0 ∨ (∃ a c, vx = .slice (some a) 0 c) ∨ vx = .string ⟨#[]⟩)) ∨
    (∃ a c us, vx = .slice (some a) m c ∧ All2 (AC.is E) cs us ∧ us.length = m * size ∧ (∀ j v, us[j]? = some v → w.cell? (a.add j) = some v) ∧ (∀ v ∈ us, v.oneCell' = true)) ∧
      (P.underlying u = some .string ∨ ∃ e', P.underlying u = some (.slice e')) := by
  unfold news at hn
  split at hn
  · split at hn
    · rename_i e' hu
      cases hn
      exact .inl ⟨rfl, .inr ⟨_, hu⟩, .inl (is_lit hx)⟩
    · cases hn
  · split at hn
    · rename_i hu
      cases hn
      exact .inl ⟨rfl, .inl hu, .inr (.inr (is_lit hx))⟩
    · cases hn
  · rename_i b n c
    split at hn
    · rename_i e' B hu hB
      split at hn
      · rename_i hc
        simp only [Bool.and_eq_true] at hc
        cases hn
        obtain ⟨p, hp, hv⟩ := is_sl hx
        obtain ⟨q, hq, hb⟩ := k.rd b B hB
        rw [hp] at hq; cases hq
        obtain ⟨us, h1, h2, h3⟩ := hb.range 0 (m * size) (by have := Nat.le_of_ble_eq_true hc.1.2; omega)
        rw [List.drop_zero] at h1
        refine .inr ⟨⟨⟨p.1, 0, none⟩, _, us, hv, h1, h2, fun j v hj => ?_, one_all h1 hc.2⟩, .inr ⟨_, hu⟩⟩
        have := h3 j v hj
        rw [Addr.add_mid]; exact this
      · cases hn
    · cases hn
  · cases hn

theorem base_mem {E : En} {h : AH} {w0 w : World} {e : TypeId} {size n : Nat} {v : AV} {vv : Value} {b : Option Nat} {bs : List AC} (k : Hp w0 E h w) (hs : 0 < size) (hsm : n ≤ 1048576) (hv : v.is E vv) (hb : base h e size v = some (b, n, bs)) :
    (b = none ∧ n = 0 ∧ bs = [] ∧ vv = .slice none 0 0) ∨
    ∃ j p c us B, b = some j ∧ h.get j = some B ∧ E[j]? = some p ∧ vv = .slice (some ⟨p.1, 0, none⟩) n c ∧ n ≤ c ∧ All2 (AC.is E) bs us ∧ w.ownsRow 0 e size vv n us := by
  unfold base at hb
  split at hb
  · cases hb; exact .inl ⟨rfl, rfl, rfl, is_lit hv⟩
  · rename_i j n' c
    split at hb
    · rename_i B hB
      split at hb
      · rename_i hc
        simp only [Bool.and_eq_true, beq_iff_eq, decide_eq_true_eq] at hc
        cases hb
        obtain ⟨p, hp, hvv⟩ := is_sl hv
        obtain ⟨q, hq, vs, tl, h1, h2, h3⟩ := k.rd j B hB
        rw [hp] at hq; cases hq
        have hl : B.cs.length = vs.length := h1.len
        have hlen := Nat.eq_of_beq_eq_true hc.1.2
        rw [hl] at hlen
        have hcc := hc.2
        cases hr : B.row with
        | none =>
          rw [hr] at hcc h3
          cases c with
          | none => simp [rowOk] at hcc
          | some c' =>
            have hcn := Nat.eq_of_beq_eq_true hcc
            simp only at h3
            subst h3
            subst hcn
            rw [List.append_nil] at h2
            refine .inr ⟨j, p, _, vs, B, rfl, hB, hp, hvv, Nat.le_refl _, h1, hlen, .inr ⟨p.1, _, vs.toArray, hvv, Nat.zero_le _, by rw [h2, hc.1.1], Nat.le_refl _, by simp only [maxLen, Option.getD_some]; omega, by simpa using hlen, ?_⟩⟩
            rw [← hlen]; simp
        | some s =>
          rw [hr] at hcc h3
          cases c with
          | some c' => simp [rowOk] at hcc
          | none =>
            have hse := Nat.eq_of_beq_eq_true hcc
            subst hse
            obtain ⟨h31, h32, h33⟩ := h3
            have hnc : n ≤ p.2 := by
              have : n * s ≤ p.2 * s := by rw [← hlen, ← h33, List.length_append]; omega
              exact Nat.le_of_mul_le_mul_right this h31
            refine .inr ⟨j, p, _, vs, B, rfl, hB, hp, hvv, hnc, h1, hlen, .inr ⟨p.1, _, (vs ++ tl).toArray, hvv, Nat.zero_le _, by rw [h2, hc.1.1], hnc, h32, by simpa using h33, ?_⟩⟩
            rw [← hlen]; simp
      · cases hb
    · cases hb
  · cases hb

theorem aappend_sound {P : Program} {E : En} {h h' : AH} {w0 w : World} {t u ty : TypeId} {v x r : AV} {vv vx : Value} (k : Hp w0 E h w) (hv : v.is E vv) (hx : x.is E vx) (ha : aappend P h t u v x = some (r, h')) :
    ∃ rv w', (Builtin.append_ #[t, u] ty #[vv, vx]).run P w = .ok rv w' ∧ ∃ E', Le E E' ∧ r.is E' rv ∧ Hp w0 E' h' w' := by
  unfold aappend at ha
  split at ha
  · rename_i e ht
    split at ha
    · rename_i i hi
      split at ha
      · rename_i z hz
        split at ha
        · rename_i m cs b n bs hn hb
          split at ha
          · rename_i hm
            have hm := Nat.eq_of_beq_eq_true hm
            cases ha
            refine ⟨vv, w, ?_, E, Le.refl E, hv, k⟩
            -- nothing is appended
            have hvv : vv = .slice none 0 0 ∨ ∃ a n c, vv = .slice (some a) n c ∧ n ≤ c := by
              unfold base at hb
              split at hb
              · exact .inl (is_lit hv)
              · rename_i j n' c
                split at hb
                · rename_i B hB
                  split at hb
                  · rename_i hc
                    simp only [Bool.and_eq_true, beq_iff_eq, decide_eq_true_eq] at hc
                    obtain ⟨p, hp, hvv⟩ := is_sl hv
                    obtain ⟨q, hq, vs, tl, h1, h2, h3⟩ := k.rd j B hB
                    rw [hp] at hq; cases hq
                    have hl : B.cs.length = vs.length := h1.len
                    have hlen := Nat.eq_of_beq_eq_true hc.1.2
                    rw [hl] at hlen
                    refine .inr ⟨_, _, _, hvv, ?_⟩
                    have hcc := hc.2
                    cases hr : B.row with
                    | none =>
                      rw [hr] at hcc
                      cases c with
                      | none => simp [rowOk] at hcc
                      | some c' => have := Nat.eq_of_beq_eq_true hcc; simp; omega
                    | some s =>
                      rw [hr] at hcc h3
                      cases c with
                      | some c' => simp [rowOk] at hcc
                      | none =>
                        have hse := Nat.eq_of_beq_eq_true hcc
                        obtain ⟨h31, h32, h33⟩ := h3
                        rw [← hse] at hlen
                        have : n' * s ≤ p.2 * s := by rw [← hlen, ← h33, List.length_append]; omega
                        exact Nat.le_of_mul_le_mul_right this h31
                  · cases hb
                · cases hb
              · cases hb
            rcases news_mem k hx hn with ⟨_, hu, hxx⟩ | ⟨⟨a, c, us, hvx, _⟩, hu⟩
            · exact run_append_none ht (by rw [hi]; rfl) hu hvv hxx
            · exact run_append_none ht (by rw [hi]; rfl) hu hvv (.inr (.inl ⟨a, c, by rw [hvx, hm]⟩))
          · rename_i hm
            have hm0 : m ≠ 0 := fun e => hm (by rw [e]; rfl)
            split at ha
            · rename_i hc
              simp only [Bool.and_eq_true] at hc
              obtain ⟨⟨⟨hut, hzs⟩, hs0⟩, hbig⟩ := hc
              have hut := Nat.eq_of_beq_eq_true hut
              have hzs := Nat.eq_of_beq_eq_true hzs
              have hs0 : 0 < i.size := by simpa [Nat.blt_eq] using hs0
              have hbig := Nat.le_of_ble_eq_true hbig
              have hnm : n + m ≤ 1048576 := by
                have : (n + m) * 1 ≤ (n + m) * (i.bytes + 1) := Nat.mul_le_mul_left _ (by omega)
                omega
              have hby : (n + m) * i.bytes ≤ 1048576 := by
                have : (n + m) * i.bytes ≤ (n + m) * (i.bytes + 1) := Nat.mul_le_mul_left _ (by omega)
                omega
              subst hut
              rcases news_mem k hx hn with ⟨h0, _⟩ | ⟨⟨a, c, us, hvx, hus, hlen, hcells, hone⟩, _⟩
              · exact absurd h0 hm0
              · have own : ∃ xs, All2 (AC.is E) bs xs ∧ w.ownsRow 0 e i.size vv n xs := by
                  rcases base_mem k hs0 (by omega) hv hb with ⟨_, rfl, rfl, rfl⟩ | ⟨j, p, c', xs, B, _, _, _, _, _, hxs, hown⟩
                  · exact ⟨[], .nil, World.ownsRow_nil w 0 e i.size⟩
                  · exact ⟨xs, hxs, hown⟩
                obtain ⟨xs, hxs, hown⟩ := own
                obtain ⟨v', w', hr, hown', hgr, hnil, hat⟩ := run_append_own_at (P := P) w 0 u ty e i z i.size i.bytes ht hi hz rfl rfl hzs hs0 vv n xs hown a m c us hlen hcells hone (by simp only [maxLen]; omega) (by omega) (Nat.zero_le _)
                rw [hvx]
                refine ⟨v', w', hr, ?_⟩
                rcases hown'.2 with ⟨_, h0⟩ | ⟨g, cap, cur, hv', _, hg, hnc, hcm, hcs, htake⟩
                · omega
                · have hBlk : BlkIs E w' (g, cap) ⟨e, some i.size, bs ++ cs⟩ := by
                    refine ⟨xs ++ us, cur.toList.drop ((n + m) * i.size), hxs.append hus, ?_, hs0, hcm, ?_⟩
                    · rw [hg, ← htake, List.take_append_drop]
                    · rw [← htake, List.take_append_drop]; simpa using hcs
                  have hgl : g < w'.heap.size := (Array.getElem?_eq_some_iff.1 hg).1
                  have hown2 : some g = vv.ownBlock ∨ g = w.heap.size := by
                    rw [hv'] at hat
                    simp only [Value.ownBlock, Option.some.injEq] at hat
                    rcases hat with h | h
                    · exact .inl h
                    · exact .inr h
                  rcases base_mem k hs0 (by omega) hv hb with ⟨rfl, rfl, rfl, rfl⟩ | ⟨j, p, c', xs', B, rfl, hB, hp, hvv, _, _, _⟩
                  · simp only at ha
                    cases ha
                    refine ⟨E ++ [(g, cap)], Le.snoc _ _, ⟨(g, cap), by rw [← k.en]; exact get_snoc _ _, by rw [hv', Nat.zero_add]; rfl⟩, ?_⟩
                    exact Hp.grow k none (row := none) (fun _ h => by cases h) (fun _ => rfl) hgr (by simpa using hBlk) (.inr (by rcases hown2 with h | h; cases h; exact h)) hgl
                  · simp only at ha
                    cases ha
                    refine ⟨E ++ [(g, cap)], Le.snoc _ _, ⟨(g, cap), ?_, by rw [hv']; rfl⟩, ?_⟩
                    · rw [← k.en]; exact get_snoc _ _
                    · refine Hp.grow k (some j) (row := vv.ownBlock) (fun b hb' => ?_) (fun h => by cases h) hgr hBlk ?_ hgl
                      · cases hb'; exact ⟨AH.get_lt hB, p, B, hp, hB, by rw [hvv]; rfl⟩
                      · rcases hown2 with h | h
                        · rw [hvv] at h; simp only [Value.ownBlock, Option.some.injEq] at h; exact .inl ⟨j, p, rfl, hp, h⟩
                        · exact .inr h
            · cases ha
        · cases ha
      · cases ha
    · cases ha
  · cases ha

end Go.Kx
