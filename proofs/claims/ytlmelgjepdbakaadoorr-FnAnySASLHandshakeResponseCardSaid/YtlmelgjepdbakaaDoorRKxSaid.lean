/- From a walk to a statement: laws over an octet and a list of octets. -/
import Derived.Test.YtlmelgjepdbakaaDoorRKxAny2
import Derived.ProofKit
import Derived.OpenShut
import Derived.WalkKit
import Derived.LaidLaws
namespace Go.Kx
open Go.ChangeShapes Go.WideShapes Go.ChangeAt Go.RowKit
set_option linter.unusedSimpArgs false
set_option linter.unusedVariables false

theorem rfAt_all {tab : List (Nat × Rf)} {p : Nat → Rf → Prop} (h : ∀ x ∈ tab, p x.1 x.2) : ∀ f a, rfAt tab f = some a → p f a := by
  intro f a hf
  unfold rfAt at hf
  simp only [Option.map_eq_some_iff] at hf
  obtain ⟨x, hx, rfl⟩ := hf
  have h1 := List.find?_some hx
  simp only [beq_iff_eq] at h1
  rw [← h1]
  exact h x (List.mem_of_find?_eq_some hx)
theorem okAll {ff : Option Int} {s : Sch} (m : Nat) (h : ((List.range (m + 1)).all fun k => okB (k : Int) (flexAt ff (k : Int)) s) = true) : ∀ ver : Int, 0 ≤ ver → ver ≤ (m : Int) → okB ver (flexAt ff ver) s = true := by
  intro ver h0 hm
  have := List.all_eq_true.1 h ver.toNat (List.mem_range.2 (by omega))
  rwa [show ((ver.toNat : Nat) : Int) = ver by omega] at this

/-- The error that the row lists: what the walk reads of it. -/
theorem errAt {P : Program} {W : World} {name nm : String} {d : DataW Unit} {rest : List (String × DataW Unit)} {g : Nat} {t : TypeId} {ms : Array (String × TypeId)} (hg : P.globalNamed name = some g) (hty : (P.globals[g]?).map (·.type) = some t) (ht : P.underlying t = some (.interface ms))
    (h : laidMet P ((name, .iface nm d) :: rest) W) : ∃ tE vE, W.cell? ⟨g, 0, none⟩ = some (.iface tE vE) ∧ g < W.heap.size := by
  obtain ⟨ps, ⟨g', t', cs, fuel, p, q, hg', ht', hvar, hd, _, _⟩, _⟩ := h
  obtain rfl := Option.some.inj (hg.symm.trans hg')
  obtain rfl := Option.some.inj (hty.symm.trans ht')
  obtain ⟨fuel', u, v, hcs, _, _⟩ := iface_of_trod ht hd
  have hc := World.var?_cell hg hvar 0
  have e0 : cs[0]? = some (.iface u v) := by
    rw [← Array.getElem?_toList, hcs]; rfl
  rw [e0] at hc
  refine ⟨u, v, hc, ?_⟩
  exact Nat.lt_of_not_le fun hn => by
    rw [World.cell?, Array.getElem?_eq_none hn] at hc
    cases hc

/-- A list of octets that comes in. -/
theorem src_open {H : Type} {enc : TypeId × Value → H} {P : Program} {w : World} {t e : TypeId} {base : Nat} {v : Value} {d : DataW H} {ps : List MemPlace} (ht : P.underlying t = some (.slice e)) (he : P.underlying e = some (.int .u8)) (hc : P.cellsOf e = 1)
    (hval : Value.okWide P w .any base t v) (hd : DataW.Trod enc P w 0 (fun _ => true) true t v d ps) : ∃ l, OctIs w (fun k => k < w.heap.size) l v := by
  obtain ⟨a0, n0, c0, rfl⟩ := okWide_slice ht hval
  obtain ⟨fuel, hf⟩ := hd
  rcases open_ints ht he hc hf with ⟨hcs, hx⟩ | ⟨a, len, cap, zs, hcs, _, hl, hm, hz, hx, hcell, hwz⟩
  · exact ⟨[], .inl ⟨by simpa [Value.cells] using hcs, rfl⟩⟩
  · simp [Value.cells] at hcs
    obtain ⟨rfl, rfl, rfl⟩ := hcs
    simp only [if_true] at hz
    have hblk : a.block < w.heap.size := by
      simp only [Value.okWide, ht, Cell.okWide, Cell.ok] at hval
      obtain ⟨_, _, _, _, row, cells, hsh, _⟩ := hval
      exact Nat.lt_of_not_le fun hn => by
        simp [World.shape?, Array.getElem?_eq_none hn] at hsh
    refine ⟨(zs.take n0).map fun z => UInt8.ofNat z.toNat, .inr ⟨a, c0, by simp [hz]; omega, by simp; omega, hblk, fun i u hu => ?_⟩⟩
    simp only [List.getElem?_map, Option.map_eq_some_iff] at hu
    obtain ⟨z, hzi, rfl⟩ := hu
    have hi : i < zs.length ∧ zs[i]? = some z := by
      rw [List.getElem?_take] at hzi
      split at hzi
      · exact ⟨(List.getElem?_eq_some_iff.1 hzi).1, hzi⟩
      · cases hzi
    rw [hcell i hi.1]
    have hb : 0 ≤ z ∧ z ≤ 255 := by
      have h5 := hwz z (List.mem_of_getElem? hi.2)
      have e1 : IntKind.u8.min = 0 := rfl
      have e2 : IntKind.u8.max = 255 := rfl
      simpa [Lit.wf, e1, e2] using h5
    have e3 : zs.getD i 0 = z := by simp [List.getD, hi.2]
    rw [e3, bv]
    congr 2
    simp
    omega

theorem oct_contract {H : Type} {enc : TypeId × Value → H} {P : Program} {f : FuncId} {fn : Func} {u8 sl bo : TypeId} {s : ChangeSpec} {W : World} {base : Nat} {args : Array Value} {ds gs : List (DataW H)} {before : List MemPlace}
    (hpar : fn.params = #[u8, sl]) (hres : fn.resultTypes = #[bo]) (h8 : P.underlying u8 = some (.int .u8)) (hsl : P.underlying sl = some (.slice u8)) (hc : P.cellsOf u8 = 1) (hb : P.underlying bo = some .bool)
    (hlo : laidOutB P = true) (hrr : P.readableRec sl = true) (hlt : sl < P.types.size) (hvars : s.vars = []) (hs : ∀ d1 d2, s.fn H [d1, d2] = { results := [.lit (.bool true)], args := [d1, d2] })
    (hval : ∀ (j : Nat) t v, fn.params[j]? = some t → args[j]? = some v → Value.okWide P W .any base t v)
    (hW : DataW.Whole enc P fn.params.toList s.vars false W args.toList ds gs before)
    (walk : ∀ (n : Nat) src l, n < 256 → OctIs W (fun k => k < W.heap.size) l src → Calls P f #[.int .u8 (n : Int), src] W fun e w' => e = .returned (.bool true) ∧ Ch (fun _ => False) W w') :
    Calls P f args W fun e W' => ∃ v, e = .returned v ∧ s.post enc P fn false true false false W args v W' := by
  have hW' := hW
  obtain ⟨p, q, hA0, hV, rfl, hfz, hnd⟩ := hW
  have hA : DataW.TrodAll enc P W 0 (fun _ => true) true fn.params.toList args.toList ds p := hA0
  rw [hpar] at hA hval
  obtain ⟨v0, vs0, d0, ds0, p0, q0, hargs, rfl, rfl, h0, r0⟩ := trodAll_cons hA
  obtain ⟨v1, vs1, d1, ds1, p1, q1, hargs1, rfl, rfl, h1, r1⟩ := trodAll_cons r0
  obtain ⟨rfl, rfl, rfl⟩ := trodAll_nil r1
  subst hargs1
  obtain rfl : args = #[v0, v1] := by cases args; simp_all
  rw [hvars] at hV
  obtain ⟨rfl, rfl⟩ := trodVars_none hV
  obtain ⟨a0, rfl, rfl, rfl, w0⟩ := open_int h8 (hval 0 u8 v0 rfl rfl) h0
  obtain ⟨l, hl⟩ := src_open hsl h8 hc (hval 1 sl v1 rfl rfl) h1
  have hx : 0 ≤ a0 ∧ a0 ≤ 255 := by simpa [Lit.wf, IntKind.min, IntKind.max, IntKind.signed, IntKind.bits] using w0
  obtain ⟨n, rfl⟩ := Int.eq_ofNat_of_zero_le hx.1
  simp only [List.append_nil, List.nil_append] at hW'
  have hlt1 : ∀ x ∈ p1, x.block < W.heap.size := fun x hx => by simpa using hW'.lt x hx
  refine (walk n v1 l (by omega) hl).mono fun e W' ⟨he, hg⟩ => ?_
  subst he
  have hbel : Below W.heap.size W W' := hg.below (Nat.le_refl _) fun _ _ h => h
  have hsp := hs (.lit (.int .u8 (n : Int))) d1
  refine ⟨_, rfl, _, _, _, [], p1, [], hW', ?_, ?_, ?_, hbel.frame _, fun h => by cases h⟩
  · rw [show ([.lit (.int .u8 (n : Int)), d1] ++ [] : List (DataW H)) = [.lit (.int .u8 (n : Int)), d1] from rfl, hsp, hres]
    exact trodAll_mk1 (shut_bool hb _)
  · rw [show ([.lit (.int .u8 (n : Int)), d1] ++ [] : List (DataW H)) = [.lit (.int .u8 (n : Int)), d1] from rfl, hsp, hpar]
    exact trodAll_cons_mk (p := []) (shut_int h8 w0) (trodAll_mk1 (Below.trod hlo hrr hlt h1 hbel hlt1))
  · rw [show ([.lit (.int .u8 (n : Int)), d1] ++ [] : List (DataW H)) = [.lit (.int .u8 (n : Int)), d1] from rfl, hsp, hvars]
    rfl
end Go.Kx
