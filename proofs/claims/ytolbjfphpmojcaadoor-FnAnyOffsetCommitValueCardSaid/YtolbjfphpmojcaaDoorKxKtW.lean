/- Known tags are written: the slice of their numbers beside the octets. -/
import Derived.Test.YtolbjfphpmojcaaDoorKxEqA
import Derived.Test.YtolbjfphpmojcaaDoorKxAgn
namespace Go.Kx
open Go.RowKit
set_option linter.unusedSimpArgs false
set_option linter.unusedVariables false

structure KW (e eK : TypeId) (w : World) (te : Value) (keys : List Nat) (wl : World) (d : Value) (bs : List UInt8) : Prop where
  grew : Grew e w (.slice none 0 0) wl d bs
  keys : KOwn eK wl te keys
  apart : ∀ k, te.ownBlock = some k → d.ownBlock ≠ some k

theorem KW.more {e eK : TypeId} {w : World} {te : Value} {keys : List Nat} {wl w2 : World} {d d2 : Value} {bs bs2 : List UInt8} (h : KW e eK w te keys wl d bs) (hg : Grew e wl d w2 d2 bs2) : KW e eK w te keys w2 d2 bs2 := by
  refine ⟨h.grew.trans hg, h.keys.keep fun k hk => hg.keep (h.keys.lt hk) (h.apart k hk), fun k hk hd => ?_⟩
  rcases hg.blk k hd with h1 | h1
  · exact h.apart k hk h1
  · have := h.keys.lt hk; omega
theorem KW.calm {e eK : TypeId} {w : World} {te : Value} {keys : List Nat} {wl w2 : World} {d : Value} {bs : List UInt8} (h : KW e eK w te keys wl d bs) (hc : Ch (fun _ => False) wl w2) : KW e eK w te keys w2 d bs :=
  ⟨h.grew.later hc, h.keys.keep fun k hk => hc.block k (h.keys.lt hk) fun h => h, h.apart⟩
theorem KOwn.form {e : TypeId} {w : World} {v : Value} {ks : List Nat} (h : KOwn e w v ks) : ∃ a c, v = .slice a ks.length c ∧ ∀ i k, ks[i]? = some k → ∃ a', a = some a' ∧ w.cell? (a'.add (i * 1)) = some (kv k) := by
  rcases h.2 with ⟨rfl, hn⟩ | ⟨g, cap, cur, rfl, hb, hg, hnc, hm, hs, ht⟩
  · refine ⟨none, 0, by rw [hn], fun i k hi => ?_⟩
    rw [List.eq_nil_of_length_eq_zero hn] at hi
    simp at hi
  · refine ⟨some ⟨g, 0, none⟩, cap, rfl, fun i k hi => ⟨_, rfl, ?_⟩⟩
    rw [Nat.mul_one]
    exact World.ownsRow.cells h (g := g) rfl i (kv k) (by simp [hi])
theorem KOwn.nil (e : TypeId) (w : World) : KOwn e w (.slice none 0 0) [] := World.ownsRow_nil w 0 e 1
/-- The count of the tags, as it is handed on. -/
theorem count_word (n m : Nat) : IntKind.u32.wrap (IntKind.i64.wrap ((n : Int) + (m : Int))) = ((word (n + m) : Nat) : Int) := by
  rw [IntKind.wrap_i64, IntKind.wrap_u32]
  unfold word
  omega
end Go.Kx
namespace Go.Kx
open Go.RowKit
def roomB (A : AB) (n : Nat) : Option Nat → Bool
  | some k => Nat.ble n k
  | none => A.row == some 1
/-- Octets that the runner has reckoned. -/
def rdOct (h : AH) : AV → Option (List UInt8)
  | .c (.sl b n c) => match (h.get b : Option AB) with
    | some A => if Nat.ble n A.cs.length && roomB A n c then (List.range n).mapM fun i => match (A.cs[i]? : Option AC) with
        | some (AC.lit (Value.int IntKind.u8 k)) => if decide (0 ≤ k) && decide (k < 256) then some (UInt8.ofNat k.toNat) else none
        | _ => none
      else none
    | none => none
  | _ => none
theorem rdOct_sound {E : En} {h : AH} {w : World} {v : AV} {u : Value} {l : List UInt8} (hr : Rd E h.get w) (hv : v.is E u) (hx : rdOct h v = some l) : OctIs w (fun k => ∃ i b p, h.get i = some b ∧ E[i]? = some p ∧ p.1 = k) l u := by
  unfold rdOct at hx
  split at hx
  · rename_i b n c
    split at hx
    · rename_i A hA
      split at hx
      · rename_i hle
        simp only [Bool.and_eq_true, Nat.ble_eq] at hle
        obtain ⟨p, hp, vs, tl, hall, hblk, hrow⟩ := hr b A hA
        obtain ⟨p', hp', hu⟩ := hv
        rw [hp] at hp'; cases hp'
        have hn := mapM_some_length hx
        rw [List.length_range] at hn
        have hvl : vs.length = A.cs.length := hall.len.symm
        refine .inr ⟨⟨p.1, 0, none⟩, c.getD p.2, by rw [hu, hn], ?_, ⟨b, A, p, hA, hp, rfl⟩, fun i x hi => ?_⟩
        · cases c with
          | some k =>
            have h2 : n ≤ k := Nat.le_of_ble_eq_true hle.2
            show l.length ≤ k
            omega
          | none =>
            have h1 : A.row = some 1 := beq_iff_eq.1 hle.2
            rw [h1] at hrow
            simp only [List.length_append] at hrow
            show l.length ≤ p.2
            omega
        · have hil := (List.getElem?_eq_some_iff.1 hi).1
          have hg := mapM_some_get hx i i (List.getElem?_range (by omega))
          rw [hi] at hg
          split at hg
          · rename_i k hk
            split at hg
            · rename_i hk2
              simp only [Bool.and_eq_true, decide_eq_true_eq] at hk2
              simp only [Option.some.injEq] at hg
              obtain ⟨y, hy, hy2⟩ := hall.get hk
              rw [add_lit, Nat.zero_add]
              have hy2 : y = .int .u8 k := hy2
              have : w.cell? ⟨p.1, i, none⟩ = some y := by
                have hb2 : Blk w p.1 A.e (vs ++ tl) := hblk
                rw [hb2.cell, List.getElem?_append_left (List.getElem?_eq_some_iff.1 hy).1]
                exact hy
              rw [this, hy2, ← hg, bv]
              congr 2
              simp
              omega
            · cases hg
          · cases hg
      · cases hx
    · cases hx
  · cases hx
theorem Own.oct {e : TypeId} {w : World} {v : Value} {bs : List UInt8} (h : Own e w v bs) : OctIs w (fun k => v.ownBlock = some k) bs v := by
  rcases h.2 with ⟨rfl, hn⟩ | ⟨g, cap, cur, rfl, hb, hg, hnc, hm, hs, ht⟩
  · exact .inl ⟨rfl, List.eq_nil_of_length_eq_zero hn⟩
  · exact .inr ⟨⟨g, 0, none⟩, cap, rfl, hnc, rfl, fun i u hu => World.ownsRow.cells h (g := g) rfl i (bv u) (by simp [hu])⟩
theorem Own.srcO {e : TypeId} {w : World} {v : Value} {bs : List UInt8} (h : Own e w v bs) (hl : bs.length ≤ 4294967296) : SrcIs w (fun k => v.ownBlock = some k) bs v := by
  rcases h.2 with ⟨rfl, hn⟩ | ⟨g, cap, cur, rfl, hb, hg, hnc, hm, hs, ht⟩
  · exact .inl ⟨rfl, List.eq_nil_of_length_eq_zero hn⟩
  · refine .inr ⟨⟨g, 0, none⟩, cap, rfl, hnc, ⟨by simp only [maxLen] at hm; omega, hl⟩, rfl, fun i u hu => World.ownsRow.cells h (g := g) rfl i (bv u) (by simp [hu])⟩
theorem OctIs.form {w : World} {S : Nat → Prop} {l : List UInt8} {v : Value} (h : OctIs w S l v) : ∃ a c, v = .slice a l.length c ∧ l.length ≤ c ∧ (a = none → l = []) ∧ (∀ a', a = some a' → Oct w a' l) ∧ ∀ a', a = some a' → S a'.block := by
  rcases h with ⟨rfl, rfl⟩ | ⟨a, c, rfl, h1, h3, h2⟩
  · exact ⟨none, 0, rfl, Nat.le_refl _, fun _ => rfl, (fun _ h => by cases h), fun _ h => by cases h⟩
  · exact ⟨some a, c, rfl, h1, (fun h => by cases h), (fun a' h => by cases h; exact h2), fun a' h => by cases h; exact h3⟩
theorem OctIs.mono2 {w : World} {S S' : Nat → Prop} {l : List UInt8} {v : Value} (h : OctIs w S l v) (hS : ∀ k, S k → S' k) : OctIs w S' l v := by
  rcases h with h | ⟨a, c, h1, h2, h3, h4⟩
  · exact .inl h
  · exact .inr ⟨a, c, h1, h2, hS _ h3, h4⟩
theorem all_pinF {σ : Fm} {k : Nat} {v : Value} {l : List (Nat × Value)} (h : σ k = v) (ht : ∀ x ∈ l, σ x.1 = x.2) : ∀ x ∈ (k, v) :: l, σ x.1 = x.2 := by
  intro x hx
  rcases List.mem_cons.1 hx with rfl | hx
  · exact h
  · exact ht x hx
end Go.Kx
