/- A list in a field: its count, its row, its things. -/
import Derived.Test.YtlmelgjepdbakaaDoorRKxRx6
namespace Go.Kx
open Go.RowKit
set_option linter.unusedSimpArgs false
set_option linter.unusedVariables false

/-- What stands between the count of a list that may be null and the question whether the reader is well. -/
def nulOf (X : Cx) (L : List Nat) (nul : Option Int) (a ln : Nat) (cs : List Code) : Option (List Code) :=
  match nul with
  | none => some cs
  | some _ => none

def rdArr (X : Cx) (fx : Bool) (L : List Nat) (q p : Nat) (T : Ty) (k : Nat) (nul : Option Int) (e : Ty) (body : Nat → Nat → Nat → List Code → Bool) (cs : List Code) : Option (List Code) :=
  match cs with
  | c1 :: c2 :: cs2 => match loadOf X.P L p T k (.arr e) c1 with
    | some v0 => match movOf L v0 c2 with
      | some a => match reach (X.kn fx) (a :: L) q 8 cs2 with
        | some (f, ln, cs3) => if isLen X f fx && wfT e then match nulOf X (ln :: a :: L) nul a ln cs3 with
          | some cs4 => match okRet X (ln :: a :: L) q cs4 with
            | some cs5 => match growOf X.P L a ln e cs5 with
              | some (te, cs6) => match rdLoop (a :: L) ln cs6 with
                | some (ix, inner, c7 :: c8 :: cs9) => if body a ix ln (flat inner) then match movOf L a c7 with
                    | some v1 => match storeOf X.P L p T k (.arr e) c8 with
                      | some vs => if vs == v1 then some cs9 else none
                      | none => none
                    | none => none
                  else none
                | _ => none
              | none => none
            | none => none
          | none => none
          else none
        | none => none
      | none => none
    | none => none
  | _ => none

/-- The slots inside the loop over a list. -/
def InArr (X : Cx) (fx : Bool) (ver : Int) (q p r g o a ga m c : Nat) (σ : Fm) : Prop := RP X fx ver q p r g o σ ∧ σ a = .slice (some ⟨ga, 0, none⟩) m c

section
variable {X : Cx} {S W : Nat → Prop} {r : Nat} {tR : TypeId} {T : Ty} {g o : Nat} {tG : TypeId} {L : List Nat} {fx : Bool} {ver : Int} {q p : Nat}

theorem rdArr_step (hX : X.Sound) (hL : LIn X fx q p L) {k : Nat} {nul : Option Int} {e : Ty} {body : Nat → Nat → Nat → List Code → Bool} {gd : Dc V} {cs rest : List Code} (h : rdArr X fx L q p T k nul e body cs = some rest)
    (hb : ∀ a ix ln cs, body a ix ln cs = true → ∀ (W : Nat → Prop) (ga : Nat) (te : TypeId) (m c : Nat), EStep X S W r tR e ga te m (ln :: a :: L) ix (InArr X fx ver q p r g o a ga m c) gd cs) :
    RStep X S W r tR T g o tG L (RP X fx ver q p r g o) (fun v => v.fld k = .arrN) (fun v l => (decLen fx l).bind fun n => (decN gd n.1.toNat n.2).map fun x => (v.put k (arrOf ver nul n.1 x.1), x.2)) cs rest := by
  intro σ w oo v s cells Q hP hA hS hM hr hk
  unfold rdArr at h
  split at h
  · rename_i c1 c2 cs2
    split at h
    · rename_i v0 hl1
      split at h
      · rename_i a hm1
        split at h
        · rename_i f ln cs3 hre
          split at h
          · rename_i hlen
            simp only [Bool.and_eq_true] at hlen
            obtain ⟨hlen, hwf⟩ := hlen
            split at h
            · rename_i cs4 hnul
              split at h
              · rename_i cs5 hok
                split at h
                · rename_i te cs6 hgr
                  split at h
                  · rename_i ix inner c7 c8 cs9 hlp
                    split at h
                    · rename_i hbody
                      split at h
                      · rename_i v1 hm2
                        split at h
                        · rename_i vs hst
                          split at h
                          · rename_i hvs
                            simp only [Option.some.injEq] at h
                            subst h
                            rw [beq_iff_eq] at hvs
                            subst hvs
                            have hbd := hb a ix ln _ hbody
                            obtain ⟨hcall, hrf⟩ := hX.ok f _ (isLen_spec hlen)
                            refine loadOf_sound hl1 hP.ptr hM.is fun σ1 he1 ⟨cv, hrv, hv0⟩ => ?_
                            refine movOf_sound hm1 fun σ2 he2 ha2 => ?_
                            have hk2 : ∀ t ∈ L, σ2 t = σ t := fun t ht => (he2 t ht).trans (he1 t ht)
                            have hP2 := hP.keep hL hk2
                            have hc := hrf w S r tR s (fun k hk => (hM.src k hk).1) hM.rd
                            rw [← hP2.rdr] at hc
                            refine reach_sound (R := fun x w2 => ∃ (m : Int) (s' : Rs), x = .int .i32 m ∧ RdIs w2 S r tR s' ∧ Ch (fun k => k = r) w w2 ∧ (-2147483648 ≤ m ∧ m < 2147483648) ∧ Got s.o (decLen fx) m s')
                              (fun x hx => List.mem_cons_of_mem _ (hL.kn x hx)) (List.mem_cons_of_mem _ hL.rdr) hcall 8 hre hP2.kn (hc.mono fun en w2 ⟨m, s', he, h1, h2, h3, h4⟩ => ⟨_, he, m, s', rfl, h1, h2, h3, h4⟩) fun σ3 w3 x ⟨z, s3, hx, hr3, hc3, hz3, hg3⟩ hln3 he3 => ?_
                            subst hx
                            have hM3 := hM.call hr3 hc3
                            have ha3 : σ3 a = ldv (.arr e) cv := ((he3 a (by simp)).trans ha2).trans hv0
                            have hk3 : ∀ t ∈ L, σ3 t = σ t := fun t ht => (he3 t (List.mem_cons_of_mem _ ht)).trans (hk2 t ht)
                            have hP3 := hP.keep hL hk3
                            unfold nulOf at hnul
                            cases nul with
                            | some _ => cases hnul
                            | none =>
                              simp only [Option.some.injEq] at hnul
                              subst hnul
                              refine okRet_sound hX hok hP3.rdr hr3 hM3.err (fun hbad σ' hres => ?_) fun hgood σ4 he4 => ?_
                              · refine hr ?_ σ' w3 (hc3.mono fun _ _ h => .inl h) hres
                                have := Got.bad hS hg3 hbad
                                cases oo with
                                | none => rfl
                                | some x => simp only [Option.bind_some] at this ⊢; rw [this]; rfl
                              · obtain ⟨x0, l3, rfl, hd3, rfl, rfl⟩ := Got.good hS hg3 hgood
                                have hfk := hA _ rfl
                                simp only at hfk
                                rw [hfk] at hrv
                                obtain rfl : cv = [.slice none 0 0] := hrv
                                have hln4 : σ4 ln = .int .i32 z := (he4 ln (by simp)).trans hln3
                                have ha4 : σ4 a = .slice none 0 0 := (he4 a (by simp)).trans ha3
                                have hk4 : ∀ t ∈ L, σ4 t = σ t := fun t ht => (he4 t (by simp [ht])).trans (hk3 t ht)
                                simp only [Option.bind_some, hd3] at hr hk
                                refine growOf_sound hgr ha4 hln4 hz3.2 (fun _ => ⟨rfl, rfl⟩) (fun hz0 σ5 ha5 he5 => ?_) fun hz0 σ5 w5 c5 ca ha5 hle5 hcap5 hb5 hsz5 hlen5 hz5 hc5 he5 => ?_
                                · -- nothing to read
                                  have h0 : z.toNat = 0 := by omega
                                  rw [h0] at hr hk
                                  simp only [decN, Option.map_some] at hr hk
                                  have hk5 : ∀ t ∈ L, σ5 t = σ t := fun t ht => (he5 t (by simp [ht])).trans (hk4 t ht)
                                  refine rdLoop_sound hlp (m := 0) (z := z) (by omega) hz3.2 (fun i w' => w' = w3) ((he5 ln (by simp)).trans hln4) rfl (fun i _ _ _ hi => by omega) fun σ6 w6 hw6 he6 => ?_
                                  subst hw6
                                  have hk6 : ∀ t ∈ L, σ6 t = σ t := fun t ht => (he6 t (by simp [ht])).trans (hk5 t ht)
                                  refine movOf_sound hm2 fun σ7 he7 hv7 => ?_
                                  have hp7 : σ7 p = .pointer (some ⟨g, o, none⟩) := (((he7 p hL.ptr).trans (hk6 p hL.ptr))).trans hP.ptr
                                  refine storeOf_sound hst hp7 hM3 (u := .arrN) (cu := [.slice none 0 0]) rfl (.inr (by rw [hv7, he6 a (by simp), ha5])) fun σ8 w8 cells8 hM8 hc8 ho8 he8 => ?_
                                  refine hk σ8 w8 _ _ cells8 ⟨?_, rfl⟩ hM8 ((hc3.mono fun _ _ h => .inl h).trans' (hc8.mono fun _ _ h => .inr h)) ho8 fun t ht => (he8 t ht).trans ((he7 t ht).trans (hk6 t ht))
                                  have : arrOf ver none z [] = .arrN := by unfold arrOf; rw [if_neg (by omega)]
                                  rw [this]
                                · have hk5 : ∀ t ∈ L, σ5 t = σ t := fun t ht => (he5 t (by simp [ht])).trans (hk4 t ht)
                                  have hP5 := hP.keep hL hk5
                                  have hltr := hr3.lt
                                  have hM5 : Mem X S W r tR T g o tG w5 v ⟨l3, false⟩ cells := hM3.call (hr3.keepG (hc5.block r hltr fun h => h) fun k hS => hc5.block k (hM3.src k hS).1 fun h => h) (hc5.mono fun _ _ h => h.elim)
                                  have hA5 : ArrSt X S W r tR e w3.heap.size te z.toNat w5 [] ⟨l3, false⟩ ca := by
                                    refine ⟨hM5.rd, hb5, hlen5, fun j x hx => by simp at hx, fun j _ hj => hz5 j hj, hM5.err, fun k hk => ?_, fun k hS => ⟨(hM5.src k hS).1, fun hw => ?_⟩, hM5.wr, by omega, hM5.eW.1, hM5.eW.2.1, by have := hM3.eW.1; omega⟩
                                    · rcases hk with hk | rfl
                                      · exact hM5.bound k hk
                                      · omega
                                    · rcases hw with hw | rfl
                                      · exact (hM5.src k hS).2 hw
                                      · have := (hM3.src _ hS).1; omega
                                  refine rdAll_sound hlp (fun σ σ' hp he => ?_) (hbd W w3.heap.size te z.toNat c5) (σ := σ5) (w := w5) ⟨hP5, ha5⟩ rfl hz3.2 ((he5 ln (by simp)).trans hln4) rfl hA5 (fun hn σ' w' hc' hres => ?_) fun σ6 w6 vs s6 ca6 hg6 hvl hA6 hc6 he6 => ?_
                                  · exact ⟨hp.1.keep hL fun t ht => he t (by simp [ht]), (he a (by simp)).trans hp.2⟩
                                  · refine hr (by rw [hn]; rfl) σ' w' ?_ hres
                                    refine (hc3.mono fun _ _ h => .inl h).trans ((hc5.mono fun _ _ h => h.elim).trans (T := rg r w3.heap.size) (S := rg r w3.heap.size) hc' fun _ _ h => h) fun i hi hT => ?_
                                    rcases hT with rfl | rfl
                                    · exact .inl rfl
                                    · have := hc3.size; omega
                                  · have hc36 : Ch (fun k => k = r) w3 w6 := by
                                      refine ((hc5.mono fun _ _ h => h.elim : Ch (fun k => k = r) w3 w5)).trans hc6 fun i hi hT => ?_
                                      rcases hT with rfl | rfl
                                      · rfl
                                      · omega
                                    have hM6 : Mem X S W r tR T g o tG w6 v s6 cells := hM3.call hA6.rd hc36
                                    have hk6 : ∀ t ∈ L, σ6 t = σ t := fun t ht => (he6 t (by simp [ht])).trans (hk5 t ht)
                                    have hlist := hA6.list hvl hle5 hcap5 (fun hw => by have := hM3.bound _ hw; omega)
                                    refine movOf_sound hm2 fun σ7 he7 hv7 => ?_
                                    have hp7 : σ7 p = .pointer (some ⟨g, o, none⟩) := (((he7 p hL.ptr).trans (hk6 p hL.ptr))).trans hP.ptr
                                    refine storeOf_sound hst hp7 hM6 (u := .arr vs) (cu := [.slice (some ⟨w3.heap.size, 0, none⟩) z.toNat c5]) hlist (.inr (by rw [hv7, he6 a (by simp), ha5])) fun σ8 w8 cells8 hM8 hc8 ho8 he8 => ?_
                                    refine hk σ8 w8 _ _ cells8 ?_ hM8 (((hc3.trans' hc36).mono fun _ _ h => .inl h).trans' (hc8.mono fun _ _ h => .inr h)) ho8 fun t ht => (he8 t ht).trans ((he7 t ht).trans (hk6 t ht))
                                    cases hdn : decN gd z.toNat l3 with
                                    | none => rw [hdn] at hg6; exact hg6
                                    | some y =>
                                      rw [hdn] at hg6
                                      obtain ⟨rfl, rfl⟩ := hg6
                                      refine ⟨?_, rfl⟩
                                      have : arrOf ver none z y.1 = .arr y.1 := by unfold arrOf; rw [if_pos hz0]
                                      show v.put k (.arr y.1) = v.put k (arrOf ver none z y.1)
                                      rw [this]
                          · cases h
                        · cases h
                      · cases h
                    · cases h
                  · cases h
                · cases h
              · cases h
            · cases h
          · cases h
        · cases h
      · cases h
    · cases h
  · cases h
end
end Go.Kx
