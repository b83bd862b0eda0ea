/- Library texts Run4 Run5 In, joined. -/
import Derived.Test.YtkgelojkhmjhkaaDoorKxRun3
import Derived.Deep.OwnRows
import Derived.Laws.Small
import Derived.Test.YtkgelojkhmjhkaaDoorKxRx3
import Derived.Lib.AppendZerosOnto
/- One operation over plain data: what it makes of the blocks; that the machine does the same. -/
namespace Go.Kx
open Go.RowKit
set_option linter.unusedSimpArgs false
set_option linter.unusedVariables false

/-- What is appended: none; or the things of a slice. -/
def news (P : Program) (h : AH) (u e : TypeId) (size : Nat) : AV → Option (Nat × List AC)
  | .c (.lit (.slice none 0 0)) => match P.underlying u with | some (.slice _) => some (0, []) | _ => none
  | .c (.lit (.string ⟨⟨[]⟩⟩)) => match P.underlying u with | some .string => some (0, []) | _ => none
  | .c (.sl b n _) => match P.underlying u, h.get b with
    | some (.slice e'), some B => if e = e' && Nat.ble (n * size) B.cs.length && (B.cs.take (n * size)).all AC.one then some (n, B.cs.take (n * size)) else none
    | _, _ => none
  | _ => none

def rowOk (size n : Nat) : Option Nat → Option Nat → Bool
  | some s, none => Nat.beq s size
  | none, some c => Nat.beq c n
  | _, _ => false

/-- What is appended to: nothing; or a block's things, all of them. -/
def base (h : AH) (e : TypeId) (size : Nat) : AV → Option (Option Nat × Nat × List AC)
  | .c (.lit (.slice none 0 0)) => some (none, 0, [])
  | .c (.sl b n c) => match h.get b with
    | some B => if B.e = e && Nat.beq B.cs.length (n * size) && rowOk size n B.row c then some (some b, n, B.cs) else none
    | none => none
  | _ => none

def aappend (P : Program) (h : AH) (t u : TypeId) (v x : AV) : Option (AV × AH) :=
  match P.underlying t with
  | some (.slice e) => match P.info? e with
    | some i => match i.zero with
      | some z =>
        match news P h u e i.size x, base h e i.size v with
        | some (m, cs), some (b, n, bs) =>
          if Nat.beq m 0 then some (v, h)
          else if Nat.beq u t && Nat.beq z.cells.size i.size && Nat.blt 0 i.size && Nat.ble ((n + m) * (i.bytes + 1)) 1048576 then
            match b with
            | none => some (.c (.sl h.n m none), h.push ⟨e, some i.size, cs⟩)
            | some b => some (.c (.sl h.n (n + m) none), (h.put b none).push ⟨e, some i.size, bs ++ cs⟩)
          else none
        | _, _ => none
      | none => none
    | none => none
  | _ => none

/-- A block is given up, another takes its cells: the row that append hands back. -/
theorem Hp.grow {w0 : World} {E : En} {h : AH} {w w' : World} (k : Hp w0 E h w) (dead : Option Nat) {B : AB} {p : Nat × Nat} {row : Option Nat} (hd : ∀ b, dead = some b → b < h.n ∧ ∃ q B0, E[b]? = some q ∧ h.get b = some B0 ∧ row = some q.1) (hd0 : dead = none → row = none)
    (hg : w.grownBy w' row) (hB : BlkIs E w' p B) (hp : (∃ b q, dead = some b ∧ E[b]? = some q ∧ p.1 = q.1) ∨ p.1 = w.heap.size) (hpl : p.1 < w'.heap.size) :
    Hp w0 (E ++ [p]) ((match dead with | some b => h.put b none | none => h).push B) w' := by
  -- the heap with the old block given up
  have hE : Le E (E ++ [p]) := Le.snoc _ _
  generalize hh : (match dead with | some b => h.put b none | none => h) = h1
  have hn1 : h1.n = h.n := by subst hh; cases dead <;> rfl
  have hl1 : h1.l.length = h1.n := by
    subst hh
    cases dead with
    | none => exact k.len
    | some b => simp [AH.put, k.len]
  have hget : ∀ i c, h1.get i = some c → h.get i = some c ∧ dead ≠ some i := by
    intro i c hc
    subst hh
    cases dead with
    | none => exact ⟨hc, by simp⟩
    | some b =>
      rw [show (match some b with | some b => h.put b none | none => h) = h.put b none from rfl, AH.get_put h k.len b (hd b rfl).1] at hc
      split at hc
      · cases hc
      · rename_i hi; exact ⟨hc, fun e => hi (by cases e; rfl)⟩
  have hrow : ∀ g, row = some g → ∃ b q B0, dead = some b ∧ E[b]? = some q ∧ h.get b = some B0 ∧ q.1 = g := by
    intro g hgr
    cases hdd : dead with
    | none => rw [hd0 hdd] at hgr; cases hgr
    | some b =>
      obtain ⟨_, q, B0, hq, hb0, hr⟩ := hd b hdd
      rw [hr] at hgr; cases hgr
      exact ⟨b, q, B0, rfl, hq, hb0, rfl⟩
  have keepb : ∀ i c q, h1.get i = some c → E[i]? = some q → w'.heap[q.1]? = w.heap[q.1]? := by
    intro i c q hc hq
    obtain ⟨hc', hne⟩ := hget i c hc
    refine hg.block _ (k.low i c q hc' hq).2 fun e => ?_
    obtain ⟨b, r, B0, hb, hr, hb0, he⟩ := hrow q.1 e.symm
    exact hne (by rw [hb, k.inj b i B0 c r q hb0 hc' hr hq he])
  have hG := AH.get_push h1 hl1 B
  refine ⟨hg.os.trans k.os, hg.tape.trans k.tape, hg.output.trans k.output, Nat.le_trans k.size hg.size, fun j hj => ?_, by simp [AH.push, k.en, hn1], by simp [AH.push, hl1], ?_, ?_, ?_⟩
  · refine (hg.block j (Nat.lt_of_lt_of_le hj k.size) fun e => ?_).trans (k.old j hj)
    obtain ⟨b, q, B0, _, hq, hb0, he⟩ := hrow j e.symm
    have := (k.low b B0 q hb0 hq).1
    omega
  · intro i c hc
    rw [hG] at hc
    by_cases hi : i = h1.n
    · rw [if_pos hi] at hc
      cases hc
      refine ⟨p, by rw [hi, hn1, ← k.en]; exact get_snoc _ _, hB.keep hE rfl⟩
    · rw [if_neg hi] at hc
      obtain ⟨q, hq, hC⟩ := k.rd i c (hget i c hc).1
      exact ⟨q, hE _ _ hq, hC.keep hE (keepb i c q hc hq)⟩
  · intro i c q hc hq
    rw [hG] at hc
    by_cases hi : i = h1.n
    · rw [hi, hn1, ← k.en, get_snoc] at hq
      cases hq
      refine ⟨?_, hpl⟩
      rcases hp with ⟨b, q, hb, hq, he⟩ | he
      · obtain ⟨_, q', B0, hq', hb0, _⟩ := hd b hb
        rw [hq] at hq'; cases hq'
        rw [he]; exact (k.low b B0 q hb0 hq).1
      · rw [he]; exact k.size
    · rw [if_neg hi] at hc
      have hc' := (hget i c hc).1
      have hlt : i < E.length := by rw [k.en]; exact AH.get_lt hc'
      rw [List.getElem?_append_left hlt] at hq
      have := k.low i c q hc' hq
      exact ⟨this.1, Nat.lt_of_lt_of_le this.2 hg.size⟩
  · -- no two in one place
    have new_ne : ∀ j d q, h1.get j = some d → E[j]? = some q → p.1 ≠ q.1 := by
      intro j d q hd' hq he
      obtain ⟨hd1, hne⟩ := hget j d hd'
      rcases hp with ⟨b, r, hb, hr, he'⟩ | he'
      · obtain ⟨_, q', B0, hq', hb0, _⟩ := hd b hb
        rw [hr] at hq'; cases hq'
        exact hne (by rw [hb, k.inj b j B0 d r q hb0 hd1 hr hq (he'.symm.trans he)])
      · have := (k.low j d q hd1 hq).2
        omega
    intro i j c d q r hc hd' hq hr he
    rw [hG] at hc hd'
    by_cases hi : i = h1.n
    · by_cases hj : j = h1.n
      · rw [hi, hj]
      · rw [hi, hn1, ← k.en, get_snoc] at hq; cases hq
        rw [if_neg hj] at hd'
        have hlt : j < E.length := by rw [k.en]; exact AH.get_lt (hget j d hd').1
        rw [List.getElem?_append_left hlt] at hr
        exact absurd he (new_ne j d r hd' hr)
    · rw [if_neg hi] at hc
      have hlt : i < E.length := by rw [k.en]; exact AH.get_lt (hget i c hc).1
      rw [List.getElem?_append_left hlt] at hq
      by_cases hj : j = h1.n
      · rw [hj, hn1, ← k.en, get_snoc] at hr; cases hr
        exact absurd he.symm (new_ne i c q hc hq)
      · rw [if_neg hj] at hd'
        have hlt' : j < E.length := by rw [k.en]; exact AH.get_lt (hget j d hd').1
        rw [List.getElem?_append_left hlt'] at hr
        exact k.inj i j c d q r (hget i c hc).1 (hget j d hd').1 hq hr he


theorem one_all {E : En} : ∀ {l : List AC} {us : List Value}, All2 (AC.is E) l us → l.all AC.one = true → ∀ u ∈ us, u.oneCell' = true := by
  intro l us h
  induction h with
  | nil => intro _ u hu; cases hu
  | cons h1 _ ih =>
    intro ho u hu
    simp only [List.all_cons, Bool.and_eq_true] at ho
    rcases List.mem_cons.1 hu with rfl | hu
    · exact h1.one ho.1
    · exact ih ho.2 u hu

/-- What is appended, in memory. -/
theorem news_mem {P : Program} {E : En} {h : AH} {w0 w : World} {u e : TypeId} {size m : Nat} {x : AV} {vx : Value} {cs : List AC} (k : Hp w0 E h w) (hx : x.is E vx) (hn : news P h u e size x = some (m, cs)) :
    (m = 0 ∧ (P.underlying u = some .string ∨ ∃ e', P.underlying u = some (.slice e')) ∧ (vx = .slice none 0 0 ∨ (∃ a c, vx = .slice (some a) 0 c) ∨ vx = .string ⟨#[]⟩)) ∨
    (∃ a c us, vx = .slice (some a) m c ∧ All2 (AC.is E) cs us ∧ us.length = m * size ∧ (∀ j v, us[j]? = some v → w.cell? (a.add j) = some v) ∧ (∀ v ∈ us, v.oneCell' = true)) ∧
      (P.underlying u = some .string ∨ ∃ e', P.underlying u = some (.slice e')) := by
  unfold news at hn
  split at hn
  · split at hn
    · rename_i e' hu
      cases hn
      exact .inl ⟨rfl, .inr ⟨_, hu⟩, .inl (is_lit hx)⟩
    · cases hn
  · split at hn
    · rename_i hu
      cases hn
      exact .inl ⟨rfl, .inl hu, .inr (.inr (is_lit hx))⟩
    · cases hn
  · rename_i b n c
    split at hn
    · rename_i e' B hu hB
      split at hn
      · rename_i hc
        simp only [Bool.and_eq_true] at hc
        cases hn
        obtain ⟨p, hp, hv⟩ := is_sl hx
        obtain ⟨q, hq, hb⟩ := k.rd b B hB
        rw [hp] at hq; cases hq
        obtain ⟨us, h1, h2, h3⟩ := hb.range 0 (m * size) (by have := Nat.le_of_ble_eq_true hc.1.2; omega)
        rw [List.drop_zero] at h1
        refine .inr ⟨⟨⟨p.1, 0, none⟩, _, us, hv, h1, h2, fun j v hj => ?_, one_all h1 hc.2⟩, .inr ⟨_, hu⟩⟩
        have := h3 j v hj
        rw [Addr.add_mid]; exact this
      · cases hn
    · cases hn
  · cases hn

theorem base_mem {E : En} {h : AH} {w0 w : World} {e : TypeId} {size n : Nat} {v : AV} {vv : Value} {b : Option Nat} {bs : List AC} (k : Hp w0 E h w) (hs : 0 < size) (hsm : n ≤ 1048576) (hv : v.is E vv) (hb : base h e size v = some (b, n, bs)) :
    (b = none ∧ n = 0 ∧ bs = [] ∧ vv = .slice none 0 0) ∨
    ∃ j p c us B, b = some j ∧ h.get j = some B ∧ E[j]? = some p ∧ vv = .slice (some ⟨p.1, 0, none⟩) n c ∧ n ≤ c ∧ All2 (AC.is E) bs us ∧ w.ownsRow 0 e size vv n us := by
  unfold base at hb
  split at hb
  · cases hb; exact .inl ⟨rfl, rfl, rfl, is_lit hv⟩
  · rename_i j n' c
    split at hb
    · rename_i B hB
      split at hb
      · rename_i hc
        simp only [Bool.and_eq_true, beq_iff_eq, decide_eq_true_eq] at hc
        cases hb
        obtain ⟨p, hp, hvv⟩ := is_sl hv
        obtain ⟨q, hq, vs, tl, h1, h2, h3⟩ := k.rd j B hB
        rw [hp] at hq; cases hq
        have hl : B.cs.length = vs.length := h1.len
        have hlen := Nat.eq_of_beq_eq_true hc.1.2
        rw [hl] at hlen
        have hcc := hc.2
        cases hr : B.row with
        | none =>
          rw [hr] at hcc h3
          cases c with
          | none => simp [rowOk] at hcc
          | some c' =>
            have hcn := Nat.eq_of_beq_eq_true hcc
            simp only at h3
            subst h3
            subst hcn
            rw [List.append_nil] at h2
            refine .inr ⟨j, p, _, vs, B, rfl, hB, hp, hvv, Nat.le_refl _, h1, hlen, .inr ⟨p.1, _, vs.toArray, hvv, Nat.zero_le _, by rw [h2, hc.1.1], Nat.le_refl _, by simp only [maxLen, Option.getD_some]; omega, by simpa using hlen, ?_⟩⟩
            rw [← hlen]; simp
        | some s =>
          rw [hr] at hcc h3
          cases c with
          | some c' => simp [rowOk] at hcc
          | none =>
            have hse := Nat.eq_of_beq_eq_true hcc
            subst hse
            obtain ⟨h31, h32, h33⟩ := h3
            have hnc : n ≤ p.2 := by
              have : n * s ≤ p.2 * s := by rw [← hlen, ← h33, List.length_append]; omega
              exact Nat.le_of_mul_le_mul_right this h31
            refine .inr ⟨j, p, _, vs, B, rfl, hB, hp, hvv, hnc, h1, hlen, .inr ⟨p.1, _, (vs ++ tl).toArray, hvv, Nat.zero_le _, by rw [h2, hc.1.1], hnc, h32, by simpa using h33, ?_⟩⟩
            rw [← hlen]; simp
      · cases hb
    · cases hb
  · cases hb

theorem aappend_sound {P : Program} {E : En} {h h' : AH} {w0 w : World} {t u ty : TypeId} {v x r : AV} {vv vx : Value} (k : Hp w0 E h w) (hv : v.is E vv) (hx : x.is E vx) (ha : aappend P h t u v x = some (r, h')) :
    ∃ rv w', (Builtin.append_ #[t, u] ty #[vv, vx]).run P w = .ok rv w' ∧ ∃ E', Le E E' ∧ r.is E' rv ∧ Hp w0 E' h' w' := by
  unfold aappend at ha
  split at ha
  · rename_i e ht
    split at ha
    · rename_i i hi
      split at ha
      · rename_i z hz
        split at ha
        · rename_i m cs b n bs hn hb
          split at ha
          · rename_i hm
            have hm := Nat.eq_of_beq_eq_true hm
            cases ha
            refine ⟨vv, w, ?_, E, Le.refl E, hv, k⟩
            -- nothing is appended
            have hvv : vv = .slice none 0 0 ∨ ∃ a n c, vv = .slice (some a) n c ∧ n ≤ c := by
              unfold base at hb
              split at hb
              · exact .inl (is_lit hv)
              · rename_i j n' c
                split at hb
                · rename_i B hB
                  split at hb
                  · rename_i hc
                    simp only [Bool.and_eq_true, beq_iff_eq, decide_eq_true_eq] at hc
                    obtain ⟨p, hp, hvv⟩ := is_sl hv
                    obtain ⟨q, hq, vs, tl, h1, h2, h3⟩ := k.rd j B hB
                    rw [hp] at hq; cases hq
                    have hl : B.cs.length = vs.length := h1.len
                    have hlen := Nat.eq_of_beq_eq_true hc.1.2
                    rw [hl] at hlen
                    refine .inr ⟨_, _, _, hvv, ?_⟩
                    have hcc := hc.2
                    cases hr : B.row with
                    | none =>
                      rw [hr] at hcc
                      cases c with
                      | none => simp [rowOk] at hcc
                      | some c' => have := Nat.eq_of_beq_eq_true hcc; simp; omega
                    | some s =>
                      rw [hr] at hcc h3
                      cases c with
                      | some c' => simp [rowOk] at hcc
                      | none =>
                        have hse := Nat.eq_of_beq_eq_true hcc
                        obtain ⟨h31, h32, h33⟩ := h3
                        rw [← hse] at hlen
                        have : n' * s ≤ p.2 * s := by rw [← hlen, ← h33, List.length_append]; omega
                        exact Nat.le_of_mul_le_mul_right this h31
                  · cases hb
                · cases hb
              · cases hb
            rcases news_mem k hx hn with ⟨_, hu, hxx⟩ | ⟨⟨a, c, us, hvx, _⟩, hu⟩
            · exact run_append_none ht (by rw [hi]; rfl) hu hvv hxx
            · exact run_append_none ht (by rw [hi]; rfl) hu hvv (.inr (.inl ⟨a, c, by rw [hvx, hm]⟩))
          · rename_i hm
            have hm0 : m ≠ 0 := fun e => hm (by rw [e]; rfl)
            split at ha
            · rename_i hc
              simp only [Bool.and_eq_true] at hc
              obtain ⟨⟨⟨hut, hzs⟩, hs0⟩, hbig⟩ := hc
              have hut := Nat.eq_of_beq_eq_true hut
              have hzs := Nat.eq_of_beq_eq_true hzs
              have hs0 : 0 < i.size := by simpa [Nat.blt_eq] using hs0
              have hbig := Nat.le_of_ble_eq_true hbig
              have hnm : n + m ≤ 1048576 := by
                have : (n + m) * 1 ≤ (n + m) * (i.bytes + 1) := Nat.mul_le_mul_left _ (by omega)
                omega
              have hby : (n + m) * i.bytes ≤ 1048576 := by
                have : (n + m) * i.bytes ≤ (n + m) * (i.bytes + 1) := Nat.mul_le_mul_left _ (by omega)
                omega
              subst hut
              rcases news_mem k hx hn with ⟨h0, _⟩ | ⟨⟨a, c, us, hvx, hus, hlen, hcells, hone⟩, _⟩
              · exact absurd h0 hm0
              · have own : ∃ xs, All2 (AC.is E) bs xs ∧ w.ownsRow 0 e i.size vv n xs := by
                  rcases base_mem k hs0 (by omega) hv hb with ⟨_, rfl, rfl, rfl⟩ | ⟨j, p, c', xs, B, _, _, _, _, _, hxs, hown⟩
                  · exact ⟨[], .nil, World.ownsRow_nil w 0 e i.size⟩
                  · exact ⟨xs, hxs, hown⟩
                obtain ⟨xs, hxs, hown⟩ := own
                obtain ⟨v', w', hr, hown', hgr, hnil, hat⟩ := run_append_own_at (P := P) w 0 u ty e i z i.size i.bytes ht hi hz rfl rfl hzs hs0 vv n xs hown a m c us hlen hcells hone (by simp only [maxLen]; omega) (by omega) (Nat.zero_le _)
                rw [hvx]
                refine ⟨v', w', hr, ?_⟩
                rcases hown'.2 with ⟨_, h0⟩ | ⟨g, cap, cur, hv', _, hg, hnc, hcm, hcs, htake⟩
                · omega
                · have hBlk : BlkIs E w' (g, cap) ⟨e, some i.size, bs ++ cs⟩ := by
                    refine ⟨xs ++ us, cur.toList.drop ((n + m) * i.size), hxs.append hus, ?_, hs0, hcm, ?_⟩
                    · rw [hg, ← htake, List.take_append_drop]
                    · rw [← htake, List.take_append_drop]; simpa using hcs
                  have hgl : g < w'.heap.size := (Array.getElem?_eq_some_iff.1 hg).1
                  have hown2 : some g = vv.ownBlock ∨ g = w.heap.size := by
                    rw [hv'] at hat
                    simp only [Value.ownBlock, Option.some.injEq] at hat
                    rcases hat with h | h
                    · exact .inl h
                    · exact .inr h
                  rcases base_mem k hs0 (by omega) hv hb with ⟨rfl, rfl, rfl, rfl⟩ | ⟨j, p, c', xs', B, rfl, hB, hp, hvv, _, _, _⟩
                  · simp only at ha
                    cases ha
                    refine ⟨E ++ [(g, cap)], Le.snoc _ _, ⟨(g, cap), by rw [← k.en]; exact get_snoc _ _, by rw [hv', Nat.zero_add]; rfl⟩, ?_⟩
                    exact Hp.grow k none (row := none) (fun _ h => by cases h) (fun _ => rfl) hgr (by simpa using hBlk) (.inr (by rcases hown2 with h | h; cases h; exact h)) hgl
                  · simp only at ha
                    cases ha
                    refine ⟨E ++ [(g, cap)], Le.snoc _ _, ⟨(g, cap), ?_, by rw [hv']; rfl⟩, ?_⟩
                    · rw [← k.en]; exact get_snoc _ _
                    · refine Hp.grow k (some j) (row := vv.ownBlock) (fun b hb' => ?_) (fun h => by cases h) hgr hBlk ?_ hgl
                      · cases hb'; exact ⟨AH.get_lt hB, p, B, hp, hB, by rw [hvv]; rfl⟩
                      · rcases hown2 with h | h
                        · rw [hvv] at h; simp only [Value.ownBlock, Option.some.injEq] at h; exact .inl ⟨j, p, rfl, hp, h⟩
                        · exact .inr h
            · cases ha
        · cases ha
      · cases ha
    · cases ha
  · cases ha

end Go.Kx

/- Any one operation but a call of a function, over plain data. -/
namespace Go.Kx
open Go.RowKit
set_option linter.unusedSimpArgs false
set_option linter.unusedVariables false

def asPtrs : List AV → Option (List (Nat × Nat))
  | [] => some []
  | .c (.ptr b o) :: l => (asPtrs l).map ((b, o) :: ·)
  | _ => none

def abuiltin (P : Program) (h : AH) (b : Builtin) (ps : List AV) (ts : List TypeId) : Option (AV × AH) :=
  match b, ps, ts with
  | .append, [v, x], [t, u] => aappend P h t u v x
  | .len, [.c (.sl _ n _)], [t] => match P.underlying t with | some (.slice _) => some (.c (.lit (.int .i64 n)), h) | _ => none
  | .len, [.c (.lit (.slice none 0 0))], [t] => match P.underlying t with | some (.slice _) => some (.c (.lit (.int .i64 0)), h) | _ => none
  | .len, [.c (.lit (.string s))], [t] => match P.underlying t with | some .string => some (.c (.lit (.int .i64 s.size)), h) | _ => none
  | .len, [.c (.lit (.map none))], [t] => match P.underlying t with | some (.map _ _) => some (.c (.lit (.int .i64 0)), h) | _ => none
  | .min, [.c (.lit (.int k a)), .c (.lit (.int _ b))], _ => some (.c (.lit (.int k (if b < a then b else a))), h)
  | .max, [.c (.lit (.int k a)), .c (.lit (.int _ b))], _ => some (.c (.lit (.int k (if b > a then b else a))), h)
  | .copy, [.c (.sl _ _ _), .c (.lit (.slice none 0 0))], [t, _] => match P.underlying t with
    | some (.slice e) => if (P.info? e).isSome then some (.c (.lit (.int .i64 0)), h) else none
    | _ => none
  | _, _, _ => none

def aop (P : Program) (h : AH) (ρ : Operand → AV) (op : Op) : Option (AV × AH) :=
  match op with
  | .nilCheck x => match ρ x with
    | .c (.ptr b o) => some (.c (.ptr b o), h)
    | _ => none
  | .alloc t => match P.info? t with
    | some i => match i.zero with
      | some z => some (.c (.ptr h.n 0), h.push ⟨t, none, lits z.cells.toList⟩)
      | none => none
    | none => none
  | .box t x => if (ρ x).ok then some (.c (.ptr h.n 0), h.push ⟨t, none, (ρ x).cells⟩) else none
  | .store t a x => match ρ a with
    | .c (.ptr b o) => match h.get b with
      | some B =>
        if (ρ x).ok && (P.info? t).map (·.size) == some (ρ x).cells.length && Nat.ble (o + (ρ x).cells.length) B.cs.length then some (AV.un, h.put b (some ⟨B.e, B.row, splice B.cs (ρ x).cells o⟩)) else none
      | none => none
    | _ => none
  | .build t ps => match places P t with
    | some (c0, pl) => (afill pl c0 (ps.toList.map fun x => (x.1, ρ x.2))).map fun cs => (.agg cs, h)
    | none => none
  | .buildSlice t n ps => match abuildS P t n (ps.toList.map fun x => (x.1, ρ x.2)) with
    | some (e, cs) => some (.c (.sl h.n n (some n)), h.push ⟨e, none, cs⟩)
    | none => none
  | .makeFunc f a b => match a.toList, asPtrs (b.toList.map ρ) with
    | [], some l => some (.c (.fn f l), h)
    | _, _ => none
  | .slice t x none (some hi) none => match P.underlying t, ρ x, ρ hi with
    | some (.slice e), .c (.sl b n c), .c (.lit (.int _ (.ofNat m))) => match h.get b, P.info? e with
      | some B, some i => if Nat.ble m n && rowFit B i.size n c then some (.c (.sl b m c), h) else none
      | _, _ => none
    | some (.slice e), .c (.lit (.slice none 0 0)), .c (.lit (.int _ (.ofNat 0))) => if (P.info? e).isSome then some (.c (.lit (.slice none 0 0)), h) else none
    | _, _, _ => none
  | .slice t x none none none => match P.underlying t, ρ x with
    | some (.array n e), .c (.ptr b 0) => if (P.info? e).isSome && Nat.blt 0 n then some (.c (.sl b n (some n)), h) else none
    | _, _ => none
  | .makeSlice t l c => match P.underlying t, ρ l, ρ c with
    | some (.slice e), .c (.lit (.int _ (.ofNat n))), .c (.lit (.int _ (.ofNat m))) => match P.info? e with
      | some i => match i.zero with
        | some z => if Nat.beq n m && Nat.beq i.size 1 && z.oneCell' && Nat.ble (i.bytes * n) 281474976710656 && Nat.ble n 1048576 then some (.c (.sl h.n n (some n)), h.push ⟨e, none, lits (madeCells #[z] n).toList⟩) else none
        | none => none
      | none => none
    | _, _, _ => none
  | .call c => match c.callee with
    | .builtin b => abuiltin P h b (c.args.toList.map ρ) c.argTypes.toList
    | _ => none
  | op => (apure P h.get ρ op).map fun v => (v, h)
where
  rowFit (B : AB) (size n : Nat) : Option Nat → Bool
    | some c => Nat.ble n c
    | none => match B.row with
      | some s => Nat.ble (n * s) B.cs.length
      | none => false

def Out (w0 : World) (E : En) (h' : AH) (v : AV) (u : Value) (w' : World) : Prop := ∃ E', Le E E' ∧ v.is E' u ∧ Hp w0 E' h' w'
theorem Out.same {w0 : World} {E : En} {h : AH} {v : AV} {u : Value} {w : World} (k : Hp w0 E h w) (hv : v.is E u) : Out w0 E h v u w := ⟨E, Le.refl E, hv, k⟩

section
variable {P : Program} {ρ : Operand → Value} {w : World} {K : Value → World → Prop} {d : Option Tmp} {ty : TypeId} {pos : String} {af : Array Edge} {g : Option (Nat × Bool)}
theorem OpK.bi {b : Builtin} {args : Array Operand} {ats : Array TypeId} {v : Value} {w' : World} (hr : ∀ cs, (builtin b ats ty cs (args.map ρ)).run P w = .ok (.value v) w') (h : K v w') : OpK P ρ ⟨d, .call ⟨.builtin b, args, ats⟩, ty, pos, af, g⟩ w K := by
  simp only [OpK, execOp, resolve, invoke, Sem.run_bind, Sem.run_pure, Result.andThen_ok, hr, After]
  exact h
end

theorem abuiltin_sound {P : Program} {E : En} {h h' : AH} {w0 w : World} {b : Builtin} {ps : List AV} {vs : List Value} {ts : List TypeId} {r : AV} {ty : TypeId} (k : Hp w0 E h w) (hp : All2 (AV.is E) ps vs)
    (ha : abuiltin P h b ps ts = some (r, h')) : ∃ v w', (∀ cs, (builtin b ts.toArray ty cs vs.toArray).run P w = .ok (.value v) w') ∧ Out w0 E h' r v w' := by
  unfold abuiltin at ha
  split at ha
  · cases hp with | cons h1 hp => cases hp with | cons h2 hp => cases hp with | nil =>
    obtain ⟨rv, w', hr, hE⟩ := aappend_sound (ty := ty) k h1 h2 ha
    exact ⟨rv, w', fun cs => by simp only [builtin, Sem.run_bind]; rw [show (#[_, _] : Array TypeId) = [_, _].toArray from rfl] at hr; rw [hr]; rfl, hE⟩
  · cases hp with | cons h1 hp => cases hp with | nil =>
    split at ha
    · rename_i e ht
      cases ha
      obtain ⟨p, hp, rfl⟩ := is_sl h1
      exact ⟨_, w, fun cs => by simp [builtin, Builtin.len_, run_underlying ht, goInt], Out.same k rfl⟩
    · cases ha
  · cases hp with | cons h1 hp => cases hp with | nil =>
    split at ha
    · rename_i e ht
      cases ha
      obtain rfl := is_lit h1
      exact ⟨_, w, fun cs => by simp [builtin, Builtin.len_, run_underlying ht, goInt], Out.same k rfl⟩
    · cases ha
  · cases hp with | cons h1 hp => cases hp with | nil =>
    split at ha
    · rename_i ht
      cases ha
      obtain rfl := is_lit h1
      exact ⟨_, w, fun cs => by simp [builtin, Builtin.len_, run_underlying ht, goInt], Out.same k rfl⟩
    · cases ha
  · cases hp with | cons h1 hp => cases hp with | nil =>
    split at ha
    · rename_i e1 e2 ht
      cases ha
      obtain rfl := is_lit h1
      exact ⟨_, w, fun cs => by simp [builtin, Builtin.len_, run_underlying ht, goInt], Out.same k rfl⟩
    · cases ha
  · cases hp with | cons h1 hp => cases hp with | cons h2 hp => cases hp with | nil =>
    cases ha
    obtain rfl := is_lit h1
    obtain rfl := is_lit h2
    exact ⟨_, w, fun cs => by simp only [builtin, Sem.run_bind, run_min_int2, Result.andThen_ok, Sem.run_pure], Out.same k rfl⟩
  · cases hp with | cons h1 hp => cases hp with | cons h2 hp => cases hp with | nil =>
    cases ha
    obtain rfl := is_lit h1
    obtain rfl := is_lit h2
    exact ⟨_, w, fun cs => by simp only [builtin, Sem.run_bind, run_max_int2, Result.andThen_ok, Sem.run_pure], Out.same k rfl⟩
  · cases hp with | cons h1 hp => cases hp with | cons h2 hp => cases hp with | nil =>
    split at ha
    · rename_i e ht
      split at ha
      · rename_i hi
        cases ha
        obtain ⟨i, hi⟩ := Option.isSome_iff_exists.1 hi
        obtain ⟨p, hp, rfl⟩ := is_sl h1
        obtain rfl := is_lit h2
        exact ⟨_, w, fun cs => by simp [builtin, Builtin.copy_, run_underlying ht, Builtin.lenOf, sizeOf, typeInfo, hi, Builtin.firstCells, storeCells, goInt], Out.same k rfl⟩
      · cases ha
    · cases ha
  · cases ha

theorem asPtrs_is {E : En} : ∀ {ps : List AV} {vs : List Value} {l : List (Nat × Nat)}, All2 (AV.is E) ps vs → asPtrs ps = some l → All2 (PtrIs E) l vs := by
  intro ps
  induction ps with
  | nil => intro vs l h k; cases h; cases k; exact .nil
  | cons x ps ih =>
    intro vs l h k
    cases h with
    | cons h1 h2 =>
      unfold asPtrs at k
      split at k
      · rename_i e; cases e
      · rename_i b o l' e
        cases e
        obtain ⟨m, hm, rfl⟩ := Option.map_eq_some_iff.1 k
        exact .cons h1 (ih h2 hm)
      · cases k

theorem map_is {E : En} {ρa : Operand → AV} {ρ : Operand → Value} (hρ : ∀ x, (ρa x).is E (ρ x)) (l : List Operand) : All2 (AV.is E) (l.map ρa) (l.map ρ) := by
  induction l with
  | nil => exact .nil
  | cons x l ih => exact .cons (hρ x) ih

theorem Out.new {w0 : World} {E : En} {h : AH} {w : World} (k : Hp w0 E h w) {t : TypeId} {cs : List AC} {vs : List Value} (cap : Nat) (hb : All2 (AC.is E) cs vs) {v : AV} {u : Value}
    (hv : v.is (E ++ [(w.heap.size, cap)]) u) : Out w0 E (h.push ⟨t, none, cs⟩) v u (w.alloc (.cells vs.toArray t)) := ⟨_, Le.snoc _ _, hv, k.push cap hb rfl⟩

theorem new_ptr {E : En} {h : AH} {w0 w : World} (k : Hp w0 E h w) (cap : Nat) : (AV.c (.ptr h.n 0)).is (E ++ [(w.heap.size, cap)]) (.pointer (some ⟨w.heap.size, 0, none⟩)) :=
  ⟨(w.heap.size, cap), by rw [← k.en]; exact get_snoc _ _, rfl⟩
theorem new_sl {E : En} {h : AH} {w0 w : World} (k : Hp w0 E h w) (n c : Nat) : (AV.c (.sl h.n n (some c))).is (E ++ [(w.heap.size, c)]) (.slice (some ⟨w.heap.size, 0, none⟩) n c) :=
  ⟨(w.heap.size, c), by rw [← k.en]; exact get_snoc _ _, rfl⟩

theorem OpK.alloc' {P : Program} {ρ : Operand → Value} {w : World} {K : Value → World → Prop} {d : Option Tmp} {tt t : TypeId} {pos : String} {af : Array Edge} {gd : Option (Nat × Bool)} {i : TypeInfo} {z : Value}
    (hi : P.info? t = some i) (hz : i.zero = some z) (h : K (.pointer (some ⟨w.heap.size, 0, none⟩)) (w.alloc (.cells z.cells t))) : OpK P ρ ⟨d, .alloc t, tt, pos, af, gd⟩ w K := OpK.allocArr hi hz h

theorem OpK.storeAny {P : Program} {ρ : Operand → Value} {w : World} {K : Value → World → Prop} {d : Option Tmp} {tt t te : TypeId} {pos : String} {af : Array Edge} {gd : Option (Nat × Bool)} {x y : Operand} {g o : Nat} {cur us : List Value} {v : Value}
    (hi : (P.info? t).map (·.size) = some us.length) (hx : ρ x = .pointer (some ⟨g, o, none⟩)) (hy : ρ y = v) (hv : v.cells = us.toArray) (h1 : ∀ u ∈ us, u.oneCell' = true) (hg : w.heap[g]? = some (.cells cur.toArray te (0, 0))) (hl : o + us.length ≤ cur.length)
    (h : K undef (w.setRow g (splice cur us o).toArray)) : OpK P ρ ⟨d, .store t x y, tt, pos, af, gd⟩ w K := by
  obtain ⟨i, hi', his⟩ := Option.map_eq_some_iff.1 hi
  have hr := run_storeCells_at (P := P) g o te us 0 cur.toArray w hg (by simpa using hl) h1
  simp only [Nat.add_zero] at hr
  simp only [OpK, execOp, hx, hy, Instr.storeAt, Instr.sureAddr, Sem.run_bind, Sem.run_pure, Result.andThen_ok, storeVar, sizeOf, typeInfo, run_program, hi', hv]
  simp [his, hr, After]
  unfold splice at h
  simpa using h

theorem aop_sound {P : Program} {E : En} {h h' : AH} {w0 w : World} {ρa : Operand → AV} {ρ : Operand → Value} (hρ : ∀ x, (ρa x).is E (ρ x)) (hc : ∀ v, ρ (.const v) = v) (k : Hp w0 E h w)
    {d : Option Tmp} {op : Op} {ty : TypeId} {pos : String} {af : Array Edge} {g : Option (Nat × Bool)} {r : AV} (ha : aop P h ρa op = some (r, h')) :
    OpK P ρ ⟨d, op, ty, pos, af, g⟩ w fun u w' => Out w0 E h' r u w' := by
  unfold aop at ha
  split at ha
  · rename_i x
    split at ha
    · rename_i b o hx
      cases ha
      obtain ⟨p, hp, hv⟩ := is_ptr (hx ▸ hρ x)
      exact OpK.nilCheck hv (Out.same k ⟨p, hp, rfl⟩)
    · cases ha
  · rename_i t
    split at ha
    · rename_i i hi
      split at ha
      · rename_i z hz
        cases ha
        refine OpK.alloc' hi hz ?_
        have := Out.new k (t := t) 0 (lits_is E z.cells.toList) (new_ptr k 0)
        rwa [Array.toArray_toList] at this
      · cases ha
    · cases ha
  · rename_i t x
    split at ha
    · rename_i ho
      cases ha
      obtain ⟨us, h1, h2, _⟩ := (hρ x).cells ho
      refine OpK.box ?_
      rw [h2]
      exact Out.new k 0 h1 (new_ptr k 0)
    · cases ha
  · rename_i t a x
    split at ha
    · rename_i b o hx
      split at ha
      · rename_i B hB
        split at ha
        · rename_i hcond
          simp only [Bool.and_eq_true, beq_iff_eq] at hcond
          obtain ⟨⟨ho, hsz⟩, hle⟩ := hcond
          have hle := Nat.le_of_ble_eq_true hle
          cases ha
          obtain ⟨us, h1, h2, h3⟩ := (hρ x).cells ho
          obtain ⟨p, hp, hv⟩ := is_ptr (hx ▸ hρ a)
          obtain ⟨q, hq, vs, tl, k1, k2, k3⟩ := k.rd b B hB
          rw [hp] at hq; cases hq
          have hl : (ρa x).cells.length = us.length := h1.len
          have hlc : B.cs.length = vs.length := k1.len
          rw [hl] at hsz hle
          rw [hlc] at hle
          refine OpK.storeAny hsz hv rfl h2 h3 k2 (by simp; omega) ?_
          have hsp : splice (vs ++ tl) us o = splice vs us o ++ tl := by
            unfold splice
            rw [List.take_append_of_le_length (by omega), List.drop_append_of_le_length (by omega)]
            simp only [List.append_assoc]
          refine ⟨E, Le.refl E, AV.un_is E, k.write hB hp rfl rfl rfl (by simp [World.setRow]) (fun i hi => setRow_other w p.1 i _ hi) ⟨splice vs us o, tl, k1.splice h1 o, ?_, ?_⟩⟩
          · rw [hsp]; exact setRow_heap w p.1 _ _ _ _ k2
          · have hsl : (splice vs us o).length = vs.length := splice_length hle
            simp only
            split
            · rename_i hr; rw [hr] at k3; exact k3
            · rename_i s hr; rw [hr] at k3; rw [List.length_append, hsl, ← List.length_append]; exact k3
        · cases ha
      · cases ha
    · cases ha
  · rename_i t ps
    split at ha
    · rename_i c0 pl hpl
      obtain ⟨cs, hf, he⟩ := Option.map_eq_some_iff.1 ha
      cases he
      obtain ⟨vs, h1, h2⟩ := places_built hpl (map_parts hρ ps.toList) hf
      exact OpK.build h2 (Out.same k ⟨vs, h1, rfl⟩)
    · cases ha
  · rename_i t n ps
    split at ha
    · rename_i e cs he
      cases ha
      obtain ⟨vs, h1, h2⟩ := abuildS_sound (qs := ps.map fun x => (x.1, ρ x.2)) he (by rw [Array.toList_map]; exact map_parts hρ ps.toList) w
      exact OpK.buildS h2 (Out.new k n h1 (new_sl k n n))
    · cases ha
  · rename_i f a b
    split at ha
    · rename_i l hal hbl
      cases ha
      refine OpK.makeFunc (Out.same k ⟨b.toList.map ρ, asPtrs_is (map_is hρ b.toList) hbl, ?_⟩)
      have : a = #[] := by apply Array.ext'; simpa using hal
      have hb : (List.map ρ b.toList).toArray = b.map ρ := by rw [← Array.toList_map, Array.toArray_toList]
      rw [this, hb]
      simp
    · cases ha
  · rename_i t x hi
    split at ha
    · rename_i e b n c k' m ht hx hhi
      split at ha
      · rename_i B i hB hi'
        split at ha
        · rename_i hcond
          simp only [Bool.and_eq_true] at hcond
          cases ha
          obtain ⟨p, hp, hv⟩ := is_sl (hx ▸ hρ x)
          have hm := Nat.le_of_ble_eq_true hcond.1
          have hn : n ≤ c.getD p.2 := by
            have h2 := hcond.2
            unfold aop.rowFit at h2
            cases c with
            | some c => exact Nat.le_of_ble_eq_true h2
            | none =>
              simp only at h2
              split at h2
              · rename_i s hr
                obtain ⟨q, hq, vs, tl, k1, k2, k3⟩ := k.rd b B hB
                rw [hp] at hq; cases hq
                rw [hr] at k3
                have h3 := Nat.le_of_ble_eq_true h2
                rw [show B.cs.length = vs.length from k1.len] at h3
                obtain ⟨k31, _, k33⟩ := k3
                rw [List.length_append] at k33
                have : n * s ≤ p.2 * s := by omega
                exact Nat.le_of_mul_le_mul_right this k31
              · cases h2
          have hm0 : (m : Int) ≤ ((c.getD p.2 : Nat) : Int) := by omega
          have hhv : ρ hi = .int k' (m : Int) := is_lit (hhi ▸ hρ hi)
          simp only [OpK, execOp, Option.map_some, Option.map_none, hv, hhv, Instr.sliceAt, Sem.run_bind, run_underlying ht, Result.andThen_ok]
          have he : P.underlying t = some (.slice (P.elem t)) := by rw [ht]; simp [Program.elem, ht]
          rw [run_slice_h w t (some ⟨p.1, 0, none⟩) n (c.getD p.2) he k' (m : Int) (by omega) hm0]
          have hel : P.elem t = e := by simp [Program.elem, ht]
          simp [sizeOf, typeInfo, hel, hi', After, sliced]
          refine Out.same k ⟨p, hp, ?_⟩
          split <;> simp [Addr.add_mid]
        · cases ha
      · cases ha
    · rename_i e k' ht hx hhi
      split at ha
      · rename_i hie
        cases ha
        obtain ⟨i, hi'⟩ := Option.isSome_iff_exists.1 hie
        have hhv : ρ hi = .int k' ((0 : Nat) : Int) := is_lit (hhi ▸ hρ hi)
        have hv := is_lit (hx ▸ hρ x)
        simp only [OpK, execOp, Option.map_some, Option.map_none, hv, hhv, Instr.sliceAt, Sem.run_bind, run_underlying ht, Result.andThen_ok]
        have he : P.underlying t = some (.slice (P.elem t)) := by rw [ht]; simp [Program.elem, ht]
        rw [run_slice_h w t none 0 0 he k' ((0 : Nat) : Int) (by omega) (by omega)]
        have hel : P.elem t = e := by simp [Program.elem, ht]
        simp [sizeOf, typeInfo, hel, hi', After, sliced]
        exact Out.same k rfl
      · cases ha
    · cases ha
  · rename_i t x
    split at ha
    · rename_i n e b ht hx
      split at ha
      · rename_i hcond
        simp only [Bool.and_eq_true] at hcond
        cases ha
        obtain ⟨i, hi'⟩ := Option.isSome_iff_exists.1 hcond.1
        obtain ⟨p, hp, hv⟩ := is_ptr (hx ▸ hρ x)
        have hn : ¬ n = 0 := by have := hcond.2; simp [Nat.blt_eq] at this; omega
        simp only [OpK, execOp, Option.map_none, hv, Instr.sliceAt, Sem.run_bind, run_underlying ht, Result.andThen_ok]
        simp [Instr.sureAddr, Instr.sliceBounds, sizeOf, typeInfo, hi', After, hn, Addr.add_mid]
        exact Out.same k ⟨p, hp, rfl⟩
      · cases ha
    · cases ha
  · rename_i t l c
    split at ha
    · rename_i e k1 n k2 m ht hl hcc
      split at ha
      · rename_i i hi
        split at ha
        · rename_i z hz
          split at ha
          · rename_i hcond
            simp only [Bool.and_eq_true] at hcond
            obtain ⟨⟨⟨⟨h1, h2⟩, h3⟩, h4⟩, h5⟩ := hcond
            have h1 := Nat.eq_of_beq_eq_true h1
            have h2 := Nat.eq_of_beq_eq_true h2
            have h4 := Nat.le_of_ble_eq_true h4
            have h5 := Nat.le_of_ble_eq_true h5
            cases ha
            subst h1
            have hr := run_make_row (P := P) t e i z ht hi hz h2 (one_cells h3) k1 k2 n h4 (by omega) w
            have hlv : ρ l = .int k1 (n : Int) := is_lit (hl ▸ hρ l)
            have hcv : ρ c = .int k2 (n : Int) := is_lit (hcc ▸ hρ c)
            simp only [OpK, execOp, hlv, hcv, Sem.run_bind, hr, Result.andThen_ok, Sem.run_pure, After]
            have := Out.new k (t := e) n (lits_is E (madeCells #[z] n).toList) (new_sl k n n)
            rwa [Array.toArray_toList] at this
          · cases ha
        · cases ha
      · cases ha
    · cases ha
  · rename_i c
    split at ha
    · rename_i b hb
      obtain ⟨callee, args, ats⟩ := c
      simp only at hb
      subst hb
      obtain ⟨v, w', hr, ho⟩ := abuiltin_sound (ty := ty) k (map_is hρ args.toList) ha
      refine OpK.bi (v := v) (w' := w') (fun cs => ?_) ho
      have := hr cs
      rw [← Array.toList_map, Array.toArray_toList, Array.toArray_toList] at this
      exact this
    · cases ha
  · obtain ⟨v, hv, he⟩ := Option.map_eq_some_iff.1 ha
    cases he
    refine After.mono (apure_OpK hρ hc k.rd hv) fun u w' ⟨h1, h2⟩ => ?_
    subst h2
    exact Out.same k h1

end Go.Kx

/- A list that is there grows from nothing by n new things: in its own row, or in a new one. -/
namespace Go.Kx
open Go.RowKit
set_option linter.unusedSimpArgs false
set_option linter.unusedVariables false

theorem run_zeros_in {P : Program} {n : Nat} (w : World) (t tn ty e : TypeId) (i : TypeInfo) (z : Value) (k kn : IntKind) (ht : P.underlying t = some (.slice e)) (htn : P.underlying tn = some (.int kn)) (hi : P.info? e = some i) (hz : i.zero = some z)
    (hzs : z.cells.size = i.size) (hone : ∀ u ∈ (Builtin.zeroCells z.cells n).toList, u.oneCell' = true) (c b : Nat) (te : TypeId) (cur : List Value) (hb : w.heap[b]? = some (.cells cur.toArray te (0, 0))) (hl : n * i.size ≤ cur.length)
    (h0 : 0 < n) (hs : 0 < i.size) (hc : n ≤ c) (h63 : (n : Int) ≤ 9223372036854775807) (h48 : n * i.bytes ≤ 281474976710656) :
    (Builtin.append_ #[t, tn] ty #[.slice (some ⟨b, 0, none⟩) 0 c, .int k n]).run P w =
      .ok (.slice (some ⟨b, 0, none⟩) n c) (w.setRow b (splice cur (Builtin.zeroCells z.cells n).toList 0).toArray) := by
  have hn : n ≠ 0 := by omega
  have hw : IntKind.i64.wrap (n : Int) = n := by rw [IntKind.wrap_i64]; omega
  have h63' : ¬ (9223372036854775807 < (n : Int)) := by omega
  have h48i : ¬ (281474976710656 < (n : Int) * (i.bytes : Int)) := by
    rw [← Int.natCast_mul]
    omega
  have hneg : ¬ ((n : Int) < 0) := by omega
  have hns : ¬ (n * i.size = 0) := Nat.mul_ne_zero hn (by omega)
  have hsz : (Builtin.zeroCells z.cells n).toList.length = n * i.size := by rw [Array.length_toList, size_zeroCells, hzs]
  have hr := run_storeCells_at (P := P) b 0 te (Builtin.zeroCells z.cells n).toList 0 cur.toArray w hb (by simp only [List.size_toArray]; omega) hone
  simp [Builtin.append_, run_underlying ht, run_underlying htn, sizeOf, typeInfo, zeroValue, hi, hz, asInt, asIntOf, hw, hn, hneg, hns, h63', h48i, hc]
  rw [addr_add_zero, hr]
  simp [Result.andThen_ok, splice]

/-- A slice that is there, or not: its row is its own. -/
def RowOf (w : World) (size : Nat) (v : Value) : Prop := v = .slice none 0 0 ∨ ∃ te b m c cur, v = .slice (some ⟨b, 0, none⟩) m c ∧ Blk w b te cur ∧ c * size ≤ cur.length ∧ c ≤ 9223372036854775807

theorem zero_one {zv : Value} {n : Nat} {T : Ty} (hz : zv.cells.toList = zeroC T) (h1 : ∀ u ∈ zeroC T, u.oneCell' = true) (h0 : 0 < T.size) : ∀ u ∈ (Builtin.zeroCells zv.cells n).toList, u.oneCell' = true := by
  intro u hu
  have hzc : zv.cells.size = T.size := by rw [← Array.length_toList, hz, zeroC_len]
  obtain ⟨i, hi⟩ := List.mem_iff_getElem?.1 hu
  have hil := (List.getElem?_eq_some_iff.1 hi).1
  rw [zeros_len] at hil
  rw [zeros_get zv.cells n i hil, hz] at hi
  exact h1 u (List.mem_of_getElem? hi)

/-- From no things on, n zeros: in the row, or in a new one. -/
theorem run_grow {P : Program} (w : World) {t tn ty e : TypeId} {T : Ty} (hez : elemZ P t tn T = some e) (h1 : ∀ u ∈ zeroC T, u.oneCell' = true) {a : Option Addr} {m c n : Nat} (hv : RowOf w T.size (.slice a m c)) (h0 : 0 < n) (hn : n < 2147483648) :
    ∃ w' gb c' ca te, (Builtin.append_ #[t, tn] ty #[.slice a 0 c, .int .i32 n]).run P w = .ok (.slice (some ⟨gb, 0, none⟩) n c') w' ∧ n ≤ c' ∧ c' ≤ 9223372036854775807 ∧ Blk w' gb te ca ∧ c' * T.size ≤ ca.length ∧ (∀ j, j < n → (ca.drop (j * T.size)).take T.size = zeroC T) ∧
      Ch (fun k => a = some ⟨k, 0, none⟩) w w' ∧ (gb = w.heap.size ∨ a = some ⟨gb, 0, none⟩) := by
  obtain ⟨hsl, hit, i, zv, hi, hzv, hsz, hpos, hby, hcells⟩ := elemZ_spec hez
  have hzc : zv.cells.size = T.size := by rw [← Array.length_toList, hcells, zeroC_len]
  have hmul : n * i.bytes ≤ 140737488355328 := by
    have h2 := Nat.mul_le_mul (show n ≤ 2147483648 by omega) hby
    omega
  by_cases hnc : c < n
  · -- a new row
    have hold : (Builtin.firstCells i.size 0 (.slice a 0 c)).run P w.drew = .ok ([] : List Value).toArray w.drew := by
      cases a with
      | none => simp [Builtin.firstCells]
      | some a => simp [Builtin.firstCells, loadCells, loadCellsFrom]
    have hr := Lib.run_append_grow_zeros (P := P) (ty := ty) w t tn e i zv .i32 .i32 hsl hit hi hzv a 0 c [] hold n h0 (by omega) (by omega) (by omega) (by omega) (growslice_fits (by omega) (by rw [Nat.zero_add]; exact hmul))
    rw [Nat.zero_add] at hr
    have hge := grownCap_ge w n c e
    refine ⟨_, w.heap.size, grownCap w n c e, ((Builtin.zeroCells zv.cells n).toList ++ (Builtin.zeroCells zv.cells (grownCap w n c e - n)).toList), e, hr, hge, ?_, ?_, ?_, fun j hj => ?_, ((Ch.drew _ w).trans' (Ch.alloc _ _ _)), .inl rfl⟩
    · have := grownCap_le_maxLen w n c e (by simp only [maxLen]; omega)
      simp only [maxLen] at this
      omega
    · have := Blk.new w.drew e ((Builtin.zeroCells zv.cells n).toList ++ (Builtin.zeroCells zv.cells (grownCap w n c e - n)).toList)
      rw [show ((Builtin.zeroCells zv.cells n).toList ++ (Builtin.zeroCells zv.cells (grownCap w n c e - n)).toList).toArray = Builtin.zeroCells zv.cells n ++ Builtin.zeroCells zv.cells (grownCap w n c e - n) by
        apply Array.ext'; simp] at this
      simpa using this
    · rw [List.length_append, zeros_len, zeros_len, hzc, ← Nat.add_mul, Nat.add_sub_cancel' hge]
      exact Nat.le_refl _
    · have := zeros_at zv.cells n j (Builtin.zeroCells zv.cells (grownCap w n c e - n)).toList hj
      rw [hzc, hcells] at this
      exact this
  · rcases hv with hv | ⟨te, b, m', c', cur, hv, hb, hl, hc⟩
    · cases hv; omega
    cases hv
    have hns : n * i.size ≤ cur.length := by
      have := Nat.mul_le_mul_right T.size (show n ≤ c by omega)
      rw [hsz]
      omega
    have hr := run_zeros_in (P := P) (ty := ty) (n := n) w t tn e i zv .i32 .i32 hsl hit hi hzv (by rw [hzc, hsz]) (zero_one hcells h1 hpos) c b te cur hb hns h0 (by omega) (by omega) (by omega) (by omega)
    have hlt := hb.lt
    have hset : ∀ k, (w.setRow b (splice cur (Builtin.zeroCells zv.cells n).toList 0).toArray).heap[k]? = if k = b then some (.cells (splice cur (Builtin.zeroCells zv.cells n).toList 0).toArray te (0, 0)) else w.heap[k]? := fun k => by
      simp only [World.setRow, Array.getElem?_modify]
      by_cases hk : k = b
      · subst hk; simp [show w.heap[k]? = _ from hb]
      · simp [hk, Ne.symm hk]
    have hzl : (Builtin.zeroCells zv.cells n).toList.length = n * T.size := by rw [zeros_len, hzc]
    refine ⟨_, b, c, splice cur (Builtin.zeroCells zv.cells n).toList 0, te, hr, by omega, hc, ?_, ?_, fun j hj => ?_, ⟨rfl, rfl, rfl, by simp [World.setRow], fun k hk hne => ?_⟩, .inr rfl⟩
    · unfold Blk
      rw [hset, if_pos rfl]
    · rw [splice_length (by rw [hzl, ← hsz]; omega)]
      exact hl
    · have := zeros_at zv.cells n j (cur.drop (n * T.size)) hj
      rw [hzc, hcells] at this
      rw [show splice cur (Builtin.zeroCells zv.cells n).toList 0 = (Builtin.zeroCells zv.cells n).toList ++ cur.drop (n * T.size) by unfold splice; simp [hzl]]
      exact this
    · rw [hset, if_neg]
      intro e
      subst e
      exact hne rfl
end Go.Kx
