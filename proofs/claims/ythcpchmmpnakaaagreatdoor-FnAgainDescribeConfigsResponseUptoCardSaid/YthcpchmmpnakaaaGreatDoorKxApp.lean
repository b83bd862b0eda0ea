/- Library texts Bytes Step App, joined. -/
import Derived.Test.YthcpchmmpnakaaaGreatDoorKxBuf
/- A literal row of octets, and appending it. -/
namespace Go.Kx
open Go.RowKit
set_option linter.unusedSimpArgs false
set_option linter.unusedVariables false

section
variable {P : Program} {w : World} {t e : TypeId}

theorem u8_parts (he : U8 P e) : ∃ i, P.info? e = some i ∧ i.zero = some (.int .u8 0) ∧ i.size = 1 ∧ i.bytes = 1 := by
  unfold U8 at he
  obtain ⟨i, hi, hh⟩ := Option.map_eq_some_iff.1 he
  simp only [Prod.mk.injEq] at hh
  exact ⟨i, hi, hh.1, hh.2.1, hh.2.2⟩

theorem run_bs1 (ht : P.underlying t = some (.slice e)) (he : U8 P e) (a : Int) :
    (Instr.buildSlice t 1 #[(0, .int .u8 a)]).run P w = .ok (.slice (some ⟨w.heap.size, 0, none⟩) 1 1) (w.alloc (.cells [.int .u8 a].toArray e)) := by
  obtain ⟨i, hi, hz, hs, hb⟩ := u8_parts he
  simp [Instr.buildSlice, run_underlying ht, sizeOf, typeInfo, hi, hs, hz, zeroValue, Instr.fill, Value.cells, newRow]
  refine congrArg (fun c => w.alloc (.cells c e)) (Array.ext' ?_)
  simp [List.range_succ]
theorem run_bs2 (ht : P.underlying t = some (.slice e)) (he : U8 P e) (a b : Int) :
    (Instr.buildSlice t 2 #[(0, .int .u8 a), (1, .int .u8 b)]).run P w = .ok (.slice (some ⟨w.heap.size, 0, none⟩) 2 2) (w.alloc (.cells [.int .u8 a, .int .u8 b].toArray e)) := by
  obtain ⟨i, hi, hz, hs, hb⟩ := u8_parts he
  simp [Instr.buildSlice, run_underlying ht, sizeOf, typeInfo, hi, hs, hz, zeroValue, Instr.fill, Value.cells, newRow]
  refine congrArg (fun c => w.alloc (.cells c e)) (Array.ext' ?_)
  simp [List.range_succ]
theorem run_bs3 (ht : P.underlying t = some (.slice e)) (he : U8 P e) (a b c : Int) :
    (Instr.buildSlice t 3 #[(0, .int .u8 a), (1, .int .u8 b), (2, .int .u8 c)]).run P w = .ok (.slice (some ⟨w.heap.size, 0, none⟩) 3 3) (w.alloc (.cells [.int .u8 a, .int .u8 b, .int .u8 c].toArray e)) := by
  obtain ⟨i, hi, hz, hs, hb⟩ := u8_parts he
  simp [Instr.buildSlice, run_underlying ht, sizeOf, typeInfo, hi, hs, hz, zeroValue, Instr.fill, Value.cells, newRow]
  refine congrArg (fun c => w.alloc (.cells c e)) (Array.ext' ?_)
  simp [List.range_succ]
theorem run_bs4 (ht : P.underlying t = some (.slice e)) (he : U8 P e) (a b c d : Int) :
    (Instr.buildSlice t 4 #[(0, .int .u8 a), (1, .int .u8 b), (2, .int .u8 c), (3, .int .u8 d)]).run P w =
      .ok (.slice (some ⟨w.heap.size, 0, none⟩) 4 4) (w.alloc (.cells [.int .u8 a, .int .u8 b, .int .u8 c, .int .u8 d].toArray e)) := by
  obtain ⟨i, hi, hz, hs, hb⟩ := u8_parts he
  simp [Instr.buildSlice, run_underlying ht, sizeOf, typeInfo, hi, hs, hz, zeroValue, Instr.fill, Value.cells, newRow]
  refine congrArg (fun c => w.alloc (.cells c e)) (Array.ext' ?_)
  simp [List.range_succ]
theorem run_bs5 (ht : P.underlying t = some (.slice e)) (he : U8 P e) (a b c d f : Int) :
    (Instr.buildSlice t 5 #[(0, .int .u8 a), (1, .int .u8 b), (2, .int .u8 c), (3, .int .u8 d), (4, .int .u8 f)]).run P w =
      .ok (.slice (some ⟨w.heap.size, 0, none⟩) 5 5) (w.alloc (.cells [.int .u8 a, .int .u8 b, .int .u8 c, .int .u8 d, .int .u8 f].toArray e)) := by
  obtain ⟨i, hi, hz, hs, hb⟩ := u8_parts he
  simp [Instr.buildSlice, run_underlying ht, sizeOf, typeInfo, hi, hs, hz, zeroValue, Instr.fill, Value.cells, newRow]
  refine congrArg (fun c => w.alloc (.cells c e)) (Array.ext' ?_)
  simp [List.range_succ]
theorem run_bs8 (ht : P.underlying t = some (.slice e)) (he : U8 P e) (a b c d f g h j : Int) :
    (Instr.buildSlice t 8 #[(0, .int .u8 a), (1, .int .u8 b), (2, .int .u8 c), (3, .int .u8 d), (4, .int .u8 f), (5, .int .u8 g), (6, .int .u8 h), (7, .int .u8 j)]).run P w =
      .ok (.slice (some ⟨w.heap.size, 0, none⟩) 8 8) (w.alloc (.cells [.int .u8 a, .int .u8 b, .int .u8 c, .int .u8 d, .int .u8 f, .int .u8 g, .int .u8 h, .int .u8 j].toArray e)) := by
  obtain ⟨i, hi, hz, hs, hb⟩ := u8_parts he
  simp [Instr.buildSlice, run_underlying ht, sizeOf, typeInfo, hi, hs, hz, zeroValue, Instr.fill, Value.cells, newRow]
  refine congrArg (fun c => w.alloc (.cells c e)) (Array.ext' ?_)
  simp [List.range_succ]

/-- append(v, literal octets...): behind the row's own making. -/
theorem append_lit {v : Value} {bs : List UInt8} {ty : TypeId} (ht : P.underlying t = some (.slice e)) (he : U8 P e) (hv : Own e w v bs) (l : List UInt8) (hl : bs.length + l.length ≤ Lim) :
    ∃ v' w', (Builtin.append_ #[t, t] ty #[v, .slice (some ⟨w.heap.size, 0, none⟩) l.length l.length]).run P (w.alloc (.cells (l.map bv).toArray e)) = .ok v' w' ∧ Grew e w v w' v' (bs ++ l) := by
  have hv' : Own e (w.alloc (.cells (l.map bv).toArray e)) v bs := hv.keep fun k hk => alloc_old w _ k (hv.lt hk)
  obtain ⟨v', w', hr, hg⟩ := run_append_oct (ty := ty) he ht hv' (a := some ⟨w.heap.size, 0, none⟩) (l := l) (c := l.length) (fun h => by cases h) (fun a' ha => by cases ha; exact Oct.new w e l) hl
  refine ⟨v', w', hr, hg.own, (Ch.alloc _ w _).trans hg.ch fun i _ h => h, fun k hk => ?_⟩
  rcases hg.blk k hk with h | h
  · exact .inl h
  · exact .inr (by have : (w.alloc (.cells (l.map bv).toArray e)).heap.size = w.heap.size + 1 := by simp
                   omega)
end

end Go.Kx

/- Lists of statements, and the plain steps of a walk through them. -/
namespace Go.Kx
open Go.RowKit
set_option linter.unusedSimpArgs false
set_option linter.unusedVariables false

def flat : Code → List Code
  | .seq a b => flat a ++ flat b
  | .skip => []
  | c => [c]

def CWL (P : Program) (n : Nat) : List Code → Fm → World → (Exit → Fm → World → Prop) → Prop
  | [], σ, w, Q => Q .normal σ w
  | c :: cs, σ, w, Q => CW P n c σ w (Then (fun σ' w' => CWL P n cs σ' w' Q) Q)

theorem then_then {next : Fm → World → Prop} {Q R : Exit → Fm → World → Prop} (h : ∀ σ w, Q .normal σ w → next σ w) (hR : ∀ e σ w, e ≠ .normal → Q e σ w → R e σ w) :
    ∀ e σ w, Q e σ w → Then next R e σ w := by
  intro e σ w hq
  cases e with
  | normal => exact h σ w hq
  | _ => exact hR _ _ _ (by simp) hq

theorem CWL.mono {P : Program} {n : Nat} {cs : List Code} : ∀ {σ : Fm} {w : World} {Q R : Exit → Fm → World → Prop}, CWL P n cs σ w Q → (∀ e σ w, Q e σ w → R e σ w) → CWL P n cs σ w R := by
  induction cs with
  | nil => exact fun h hq => hq _ _ _ h
  | cons c cs ih =>
    intro σ w Q R h hq
    refine CW.mono h fun e σ w h' => ?_
    cases e with
    | normal => exact ih h' hq
    | _ => exact hq _ _ _ h'

theorem CWL.append {P : Program} {n : Nat} {a b : List Code} : ∀ {σ : Fm} {w : World} {Q : Exit → Fm → World → Prop}, CWL P n a σ w (Then (fun σ' w' => CWL P n b σ' w' Q) Q) → CWL P n (a ++ b) σ w Q := by
  induction a with
  | nil => exact fun h => h
  | cons c a ih =>
    intro σ w Q h
    refine CW.mono h fun e σ w h' => ?_
    cases e with
    | normal => exact ih h'
    | _ => exact h'

theorem CW.of_flat {P : Program} {n : Nat} {c : Code} : ∀ {σ : Fm} {w : World} {Q : Exit → Fm → World → Prop}, CWL P n (flat c) σ w Q → CW P n c σ w Q := by
  have one : ∀ (c : Code) {σ : Fm} {w : World} {Q : Exit → Fm → World → Prop}, CWL P n [c] σ w Q → CW P n c σ w Q := by
    intro c σ w Q h
    refine CW.mono h fun e σ w h' => ?_
    cases e with
    | normal => exact h'
    | _ => exact h'
  -- a list that is run and then a list
  have split : ∀ (a b : List Code) {σ : Fm} {w : World} {Q : Exit → Fm → World → Prop}, CWL P n (a ++ b) σ w Q → CWL P n a σ w (Then (fun σ' w' => CWL P n b σ' w' Q) Q) := by
    intro a
    induction a with
    | nil => exact fun b σ w Q h => h
    | cons c a ih =>
      intro b σ w Q h
      refine CW.mono h fun e σ w h' => ?_
      cases e with
      | normal => exact ih b h'
      | _ => exact h'
  induction c with
  | seq a b iha ihb =>
    intro σ w Q h
    refine CW.seq (iha ((split _ _ h).mono fun e σ w h' => ?_))
    cases e with
    | normal => exact ihb h'
    | _ => exact h'
  | skip => exact fun h => CW.skip h
  | _ => exact fun h => one _ h

theorem CWL.cons {P : Program} {n : Nat} {c : Code} {cs : List Code} {σ : Fm} {w : World} {Q : Exit → Fm → World → Prop} (h : CW P n c σ w (Then (fun σ' w' => CWL P n cs σ' w' Q) Q)) : CWL P n (c :: cs) σ w Q := h

/-- A region whose operations stand in one order. -/
def canR : Code → Option Can
  | .region _ ops false => canon ops.toList [] 0
  | _ => none

def outF (b : List (Nat × Nat)) (ρ : Fm) : Fm := fun t => ρ (look b t)

theorem CWL.reg {P : Program} {n : Nat} {c : Code} {cs : List Code} {σ : Fm} {w : World} {Q : Exit → Fm → World → Prop} {ops : List (Op × TypeId)} {b : List (Nat × Nat)} (hc : canR c = some ⟨ops, b⟩)
    (h : RC P ops 0 (enF σ) w fun ρ w' => CWL P n cs (outF b ρ) w' Q) : CWL P n (c :: cs) σ w Q := by
  unfold canR at hc
  split at hc
  · exact CWL.cons (CW.canon hc h)
  · cases hc

/-- Slots of L are none that are bound. -/
def free (L : List Nat) (b : List (Nat × Nat)) : Bool := L.all fun t => b.all fun y => y.1 != t

theorem look_free {b : List (Nat × Nat)} {t : Nat} (h : (b.all fun y => y.1 != t) = true) : look b t = 2 * t := by
  induction b with
  | nil => rfl
  | cons y b ih =>
    simp only [List.all_cons, Bool.and_eq_true, bne_iff_ne, ne_eq] at h
    obtain ⟨s, e⟩ := y
    simp only [look]
    rw [if_neg (by simpa using h.1)]
    exact ih h.2

theorem outF_free {L : List Nat} {b : List (Nat × Nat)} (h : free L b = true) {t : Nat} (ht : t ∈ L) (ρ : Fm) : outF b ρ t = ρ (2 * t) := by
  unfold free at h
  rw [List.all_eq_true] at h
  unfold outF
  rw [look_free (h t ht)]

theorem outF_head (s e : Nat) (b : List (Nat × Nat)) (ρ : Fm) : outF ((s, e) :: b) ρ s = ρ e := by simp [outF, look]

theorem enF_two (σ : Fm) (t : Nat) : enF σ (2 * t) = σ t := enF_even σ t
theorem upd_odd (ρ : Fm) (k : Nat) (v : Value) (t : Nat) (hk : k % 2 = 1) : upd ρ (some k) v (2 * t) = ρ (2 * t) := upd_ne _ _ (by omega)

theorem free_cons {t : Nat} {L : List Nat} {b : List (Nat × Nat)} : free (t :: L) b = ((b.all fun y => y.1 != t) && free L b) := by simp [free]

/-- Idle: constants into slots that are not asked for. -/
def idleOps : List (Op × TypeId) → Bool
  | [] => true
  | (.move (.const _), _) :: l => idleOps l
  | (.assign (.const _), _) :: l => idleOps l
  | _ => false

theorem RC.idle {P : Program} (ops : List (Op × TypeId)) : ∀ {k : Nat} {ρ : Fm} {w : World} {K : Fm → World → Prop}, idleOps ops = true → (∀ ρ', (∀ t, ρ' (2 * t) = ρ (2 * t)) → K ρ' w) → RC P ops k ρ w K := by
  induction ops with
  | nil => exact fun _ h => h _ fun _ => rfl
  | cons o l ih =>
    intro k ρ w K hi h
    unfold idleOps at hi
    split at hi
    · rename_i e; cases e
    · rename_i e
      obtain ⟨rfl, rfl⟩ := List.cons.inj e
      exact OpK.move (ih hi fun ρ' he => h ρ' fun t => (he t).trans (upd_odd _ _ _ _ (by omega)))
    · rename_i e
      obtain ⟨rfl, rfl⟩ := List.cons.inj e
      exact OpK.assign (ih hi fun ρ' he => h ρ' fun t => (he t).trans (upd_odd _ _ _ _ (by omega)))
    · cases hi

def isIdle (L : List Nat) (c : Code) : Bool :=
  match canR c with
  | some ⟨ops, b⟩ => idleOps ops && free L b
  | none => false

theorem CWL.idle {P : Program} {n : Nat} {L : List Nat} {c : Code} {cs : List Code} {σ : Fm} {w : World} {Q : Exit → Fm → World → Prop} (h : isIdle L c = true)
    (hk : ∀ σ', (∀ t ∈ L, σ' t = σ t) → CWL P n cs σ' w Q) : CWL P n (c :: cs) σ w Q := by
  unfold isIdle at h
  split at h
  · rename_i ops b hc
    simp only [Bool.and_eq_true] at h
    exact CWL.reg hc (RC.idle ops h.1 fun ρ he => hk _ fun t ht => by rw [outF_free h.2 ht, he, enF_two])
  · cases h

end Go.Kx

/- The statements that write a message, field by field: a check over a function's code, and that what passes it writes what 'enc' says. -/
namespace Go.Kx
open Go.RowKit
set_option linter.unusedSimpArgs false
set_option linter.unusedVariables false

/-- What a loaded variable of a kind is. -/
def ldv : Ty → List Value → Value
  | .uuid, cs => .agg cs.toArray
  | _, cs => cs.headD undef

def loadOk (P : Program) (lt : TypeId) : Ty → Bool
  | .uuid => (match P.underlying lt with | some (.array 16 _) => true | _ => false) && (P.info? lt).map (·.size) == some 16
  | .nil => false
  | .cons _ _ => false
  | _ => oneB P lt

theorem run_loadCells {P : Program} {w : World} {g o : Nat} {cs : List Value} (h : At w g o cs) : (loadCells ⟨g, o, none⟩ cs.length).run P w = .ok cs.toArray w := by
  have key : ∀ (l acc : List Value) (i : Nat), (∀ j u, l[j]? = some u → w.cell? ⟨g, o + (i + j), none⟩ = some u) →
      (loadCellsFrom ⟨g, o, none⟩ i l.length acc.toArray).run P w = .ok (acc ++ l).toArray w := by
    intro l
    induction l with
    | nil => intro acc i _; simp [loadCellsFrom]
    | cons x l ih =>
      intro acc i hl
      have h0 := hl 0 x rfl
      simp only [Nat.add_zero] at h0
      simp only [List.length_cons, loadCellsFrom, Sem.run_bind, run_load, add_lit, h0, Result.andThen_ok, List.push_toArray]
      rw [ih (acc ++ [x]) (i + 1) (fun j u hu => by
        have := hl (j + 1) u (by simpa using hu)
        rwa [show i + (j + 1) = i + 1 + j by omega] at this)]
      simp
  have := key cs [] 0 (fun j u hu => by have := h j u hu; simpa using this)
  simpa [loadCells] using this

theorem OpK.loadKind {P : Program} {ρ : Operand → Value} {w : World} {K : Value → World → Prop} {d : Option Tmp} {tt : TypeId} {pos : String} {af : Array Edge} {gd : Option (Nat × Bool)}
    {x : Operand} {lt : TypeId} {ty : Ty} {S : Nat → Prop} {g o : Nat} {v : V} (hl : loadOk P lt ty = true) (hx : ρ x = .pointer (some ⟨g, o, none⟩)) (hi : Is w S g o ty v)
    (h : ∀ cs, Rep w S ty v cs → K (ldv ty cs) w) : OpK P ρ ⟨d, .load lt x, tt, pos, af, gd⟩ w K := by
  obtain ⟨cs, hr, ha⟩ := hi
  have hsz := hr.size
  by_cases hu : ty = .uuid
  · subst hu
    simp only [loadOk, Bool.and_eq_true, beq_iff_eq] at hl
    obtain ⟨hl1, hl2⟩ := hl
    split at hl1
    · rename_i e hd
      obtain ⟨i, hi, hi16⟩ := Option.map_eq_some_iff.1 hl2
      simp only [Ty.size] at hsz
      have hrun := run_loadCells (P := P) ha
      rw [hsz] at hrun
      simp only [OpK, execOp, hx, Instr.loadAt, Instr.sureAddr, Sem.run_bind, Sem.run_pure, Result.andThen_ok, loadVar, isAgg, run_underlying hd, if_true, sizeOf, typeInfo, run_program, hi, hi16, hrun, After]
      exact h cs hr
    · cases hl1
  · have h1 : ∃ x, cs = [x] ∧ oneB P lt = true := by
      cases ty <;> simp only [Ty.size] at hsz <;> first
        | exact absurd rfl hu
        | (simp [loadOk] at hl; done)
        | (obtain ⟨x, rfl⟩ := List.length_eq_one_iff.1 hsz; exact ⟨x, rfl, hl⟩)
    obtain ⟨u, rfl, ho⟩ := h1
    refine OpK.load ho hx (v := u) (by have := ha 0 u rfl; simpa using this) ?_
    have := h [u] hr
    cases ty <;> first | exact this | exact absurd rfl hu

/-- What the blocks of S are to the slice that grows: they are there, and not its own. -/
def Clear (w : World) (S : Nat → Prop) (d : Value) : Prop := ∀ k, S k → k < w.heap.size ∧ d.ownBlock ≠ some k

theorem Clear.step {e : TypeId} {w w' : World} {S : Nat → Prop} {d d' : Value} {bs : List UInt8} (h : Clear w S d) (hg : Grew e w d w' d' bs) : Clear w' S d' := by
  intro k hk
  obtain ⟨h1, h2⟩ := h k hk
  refine ⟨Nat.lt_of_lt_of_le h1 hg.ch.size, fun he => ?_⟩
  rcases hg.blk k he with h' | h'
  · exact h2 h'
  · omega

theorem Clear.keep {e : TypeId} {w w' : World} {S : Nat → Prop} {d d' : Value} {bs : List UInt8} (h : Clear w S d) (hg : Grew e w d w' d' bs) : ∀ k, S k → w'.heap[k]? = w.heap[k]? :=
  fun k hk => hg.keep (h k hk).1 (h k hk).2

/-- The functions that write. -/
inductive Ap where
  | val (fx : Bool) (w : Wt)
  | len (fx : Bool)
  | nlen (fx : Bool)
  | uv
  | tlen
  | teach
  deriving DecidableEq

def encN (fx : Bool) (n : Nat) : List UInt8 := if fx then uvar (word (n + 1)) else be 4 n

/-- full: the functions on tags are known for all tags, not for none alone. -/
def ApOk (P : Program) (e : TypeId) (full : Bool) (f : FuncId) : Ap → Prop
  | .val fx wt => ∀ (w : World) (S : Nat → Prop) (v : V) (cs : List Value) (d : Value) (bs : List UInt8), Rep w S wt.ty v cs → Own e w d bs → Clear w S d → bs.length + (encW fx wt v).length ≤ Lim →
      Calls P f #[d, ldv wt.ty cs] w fun en w' => ∃ d', en = .returned d' ∧ Grew e w d w' d' (bs ++ encW fx wt v)
  | .len fx => ∀ (w : World) (n : Nat) (d : Value) (bs : List UInt8), Own e w d bs → bs.length + (encN fx n).length ≤ Lim →
      Calls P f #[d, .int .i64 n] w fun en w' => ∃ d', en = .returned d' ∧ Grew e w d w' d' (bs ++ encN fx n)
  | .nlen fx => ∀ (w : World) (n : Nat) (b : Bool) (d : Value) (bs : List UInt8), Own e w d bs → bs.length + (if b then (if fx then uvar 0 else be 4 (-1)) else encN fx n).length ≤ Lim →
      Calls P f #[d, .int .i64 n, .bool b] w fun en w' => ∃ d', en = .returned d' ∧ Grew e w d w' d' (bs ++ if b then (if fx then uvar 0 else be 4 (-1)) else encN fx n)
  | .uv => ∀ (w : World) (n : Nat) (d : Value) (bs : List UInt8), n < 4294967296 → Own e w d bs → bs.length + (uvar n).length ≤ Lim →
      Calls P f #[d, .int .u32 n] w fun en w' => ∃ d', en = .returned d' ∧ Grew e w d w' d' (bs ++ uvar n)
  | .tlen => ∀ (w : World) (S : Nat → Prop) (g o : Nat) (v : V), (full = true ∨ v.tagsOf = []) → Is w S g o .tags v → Calls P f #[.pointer (some ⟨g, o, none⟩)] w fun en w' => en = .returned (.int .i64 v.tagsOf.length) ∧ w' = w
  | .teach => ∀ (w : World) (S : Nat → Prop) (g o : Nat) (v : V) (d : Value) (bs : List UInt8), (full = true ∨ v.tagsOf = []) → Is w S g o .tags v → S g → Own e w d bs → Clear w S d → bs.length + (encEach v.tagsOf).length ≤ Lim →
      Calls P f #[.pointer (some ⟨g, o, none⟩), d] w fun en w' => ∃ d', en = .returned d' ∧ Grew e w d w' d' (bs ++ encEach v.tagsOf)

def apAt (tab : List (Nat × Ap)) (f : FuncId) : Option Ap := (tab.find? fun x => x.1 == f).map (·.2)

/-- Each function of the table does what the table says. -/
structure Sound (P : Program) (e : TypeId) (full : Bool) (tab : List (Nat × Ap)) : Prop where
  u8 : U8 P e
  ok : ∀ f a, apAt tab f = some a → Callable P f ∧ ApOk P e full f a

/-- The slots of a function that writes. -/
structure Sl where
  ver : Nat
  flx : Option Nat
  dst : Nat

structure Ctx where
  P : Program
  tab : List (Nat × Ap)
  x : Sl

/-- One step: from these statements to those, so many octets written, the slots of L kept. w0, d0: where the writing began. -/
def Step (P : Program) (n : Nat) (e : TypeId) (w0 : World) (d0 : Value) (dst : Nat) (L : List Nat) (Pre : Fm → Prop) (cs rest : List Code) (out : List UInt8) : Prop :=
  ∀ (σ : Fm) (w : World) (bs : List UInt8) (Q : Exit → Fm → World → Prop), Pre σ → Grew e w0 d0 w (σ dst) bs → bs.length + out.length ≤ Lim →
    (∀ σ' w', Grew e w0 d0 w' (σ' dst) (bs ++ out) → (∀ t ∈ L, σ' t = σ t) → CWL P n rest σ' w' Q) → CWL P n cs σ w Q

section
variable {P : Program} {n : Nat} {e : TypeId} {w0 : World} {d0 : Value} {dst : Nat} {L : List Nat} {Pre : Fm → Prop} {a b c : List Code} {o1 o2 out : List UInt8}

theorem Step.refl (h : out = []) : Step P n e w0 d0 dst L Pre a a out := fun σ w bs Q _ hg _ hk => hk σ w (by rw [h, List.append_nil]; exact hg) fun _ _ => rfl

theorem Step.trans {Pre' : Fm → Prop} (h : Step P n e w0 d0 dst L Pre a b o1) (k : Step P n e w0 d0 dst L Pre' b c o2) (hp : ∀ σ σ', Pre σ → (∀ t ∈ L, σ' t = σ t) → Pre' σ') :
    Step P n e w0 d0 dst L Pre a c (o1 ++ o2) := by
  intro σ w bs Q hP hg hl hk
  simp only [List.length_append] at hl
  refine h σ w bs Q hP hg (by omega) fun σ1 w1 hg1 he1 => ?_
  refine k σ1 w1 _ Q (hp _ _ hP he1) hg1 (by simp only [List.length_append]; omega) fun σ2 w2 hg2 he2 => ?_
  exact hk σ2 w2 (by rw [← List.append_assoc]; exact hg2) fun t ht => (he2 t ht).trans (he1 t ht)

theorem Step.pre {Pre' : Fm → Prop} (h : Step P n e w0 d0 dst L Pre' a b out) (hp : ∀ σ, Pre σ → Pre' σ) : Step P n e w0 d0 dst L Pre a b out :=
  fun σ w bs Q hP => h σ w bs Q (hp σ hP)

theorem Step.sub {L' : List Nat} (h : Step P n e w0 d0 dst L' Pre a b out) (hl : ∀ t ∈ L, t ∈ L') : Step P n e w0 d0 dst L Pre a b out :=
  fun σ w bs Q hP hg hlim hk => h σ w bs Q hP hg hlim fun σ' w' hg' he => hk σ' w' hg' fun t ht => he t (hl t ht)

/-- A list that ends, inside a bracket that goes on. -/
theorem Step.inner {A cs : List Code} (h : Step P n e w0 d0 dst L Pre A [] out) {σ : Fm} {w : World} {bs : List UInt8} {Q : Exit → Fm → World → Prop} (hP : Pre σ) (hg : Grew e w0 d0 w (σ dst) bs)
    (hl : bs.length + out.length ≤ Lim) (hk : ∀ σ' w', Grew e w0 d0 w' (σ' dst) (bs ++ out) → (∀ t ∈ L, σ' t = σ t) → CWL P n cs σ' w' Q) :
    CWL P n A σ w (Then (fun σ' w' => CWL P n cs σ' w' Q) Q) :=
  h σ w bs _ hP hg hl fun σ' w' hg' he => hk σ' w' hg' he
end

/-! ### A field is loaded -/
def loadOf (P : Program) (L : List Nat) (p : Nat) (T : Ty) (k : Nat) (ty : Ty) (c : Code) : Option Nat :=
  match canR c with
  | some ⟨[(.nilCheck (.tmp p2), _), (.fieldAddr tid (.tmp 1) k', _), (.load lt (.tmp 3), _)], (v, 5) :: b⟩ =>
    match T.fld k with
    | some (ty', off) => if p2 == 2 * p && fieldOff P tid k' == some off && loadOk P lt ty && decide (ty' = ty) && free L ((v, 5) :: b) then some v else none
    | none => none
  | _ => none

theorem add_at (g o off : Nat) : (⟨g, o, none⟩ : Addr).add off = ⟨g, o + off, none⟩ := add_lit g o off

theorem loadOf_sound {P : Program} {n : Nat} {L : List Nat} {p : Nat} {T : Ty} {k : Nat} {ty : Ty} {c : Code} {s : Nat} (h : loadOf P L p T k ty c = some s) {rest : List Code} {σ : Fm} {w : World}
    {Q : Exit → Fm → World → Prop} {S : Nat → Prop} {g o : Nat} {v : V} (hp : σ p = .pointer (some ⟨g, o, none⟩)) (hi : Is w S g o T v)
    (hk : ∀ σ', (∀ t ∈ L, σ' t = σ t) → (∃ cs, Rep w S ty (v.fld k) cs ∧ σ' s = ldv ty cs) → CWL P n rest σ' w Q) : CWL P n (c :: rest) σ w Q := by
  unfold loadOf at h
  split at h
  · rename_i p2 ty1 tid k' ty2 lt ty3 s' b hc
    split at h
    · rename_i ty' off hf
      split at h
      · rename_i hh
        simp only [Option.some.injEq] at h
        subst h
        simp only [Bool.and_eq_true, beq_iff_eq, decide_eq_true_eq] at hh
        obtain ⟨⟨⟨⟨rfl, hoff⟩, hlo⟩, rfl⟩, hfree⟩ := hh
        refine CWL.reg hc ?_
        refine OpK.nilCheck (a := ⟨g, o, none⟩) (by simp only [ev_tmp, enF_two]; exact hp) ?_
        refine OpK.fieldAddr hoff (a := ⟨g, o, none⟩) (by simp [upd]) ?_
        refine OpK.loadKind hlo (S := S) (g := g) (o := o + off) (v := v.fld k) (by simp [upd, add_at]) (hi.fld hf) fun cs hr => ?_
        refine hk _ (fun t ht => ?_) ⟨cs, hr, ?_⟩
        · rw [outF_free hfree ht, upd_odd _ _ _ _ (by omega), upd_odd _ _ _ _ (by omega), upd_odd _ _ _ _ (by omega), enF_two]
        · rw [outF_head]; simp [upd]
      · cases h
    · cases h
  · cases h

/-! ### A call that writes a value -/
def asCall : Op → Option (FuncId × List Operand)
  | .call ⟨.value (.func f), args, _⟩ => some (f, args.toList)
  | _ => none
def asLen : Op → Option (Operand × TypeId)
  | .call ⟨.builtin .len, args, ats⟩ => match args.toList, ats.toList with
    | [x], [t] => some (x, t)
    | _, _ => none
  | _ => none
def asApp : Op → Option (Operand × Operand × TypeId × TypeId)
  | .call ⟨.builtin .append, args, ats⟩ => match args.toList, ats.toList with
    | [x, y], [t, u] => some (x, y, t, u)
    | _, _ => none
  | _ => none

theorem arr_of_list {α : Type} {a : Array α} {l : List α} (h : a.toList = l) : a = l.toArray := by
  apply Array.ext'
  simpa using h

theorem OpK.asCall {P : Program} {ρ : Operand → Value} {w : World} {K : Value → World → Prop} {d : Option Tmp} {ty : TypeId} {pos : String} {af : Array Edge} {gd : Option (Nat × Bool)}
    {op : Op} {f : FuncId} {args : List Operand} (h : asCall op = some (f, args)) (hf : Callable P f) (hρ : ρ (.func f) = .func (.func f) #[] #[])
    (hc : Calls P f (args.map ρ).toArray w fun e w' => ∃ v, e = .returned v ∧ K v w') : OpK P ρ ⟨d, op, ty, pos, af, gd⟩ w K := by
  unfold Go.Kx.asCall at h
  split at h
  · rename_i f' args' ats
    simp only [Option.some.injEq, Prod.mk.injEq] at h
    obtain ⟨rfl, rfl⟩ := h
    refine OpK.call hf ?_ hρ
    have : args'.map ρ = (args'.toList.map ρ).toArray := by apply Array.ext'; simp
    rw [this]
    exact hc
  · cases h

theorem OpK.asLen {P : Program} {ρ : Operand → Value} {w : World} {K : Value → World → Prop} {d : Option Tmp} {ty : TypeId} {pos : String} {af : Array Edge} {gd : Option (Nat × Bool)}
    {op : Op} {x : Operand} {t : TypeId} {s : Nat} {a : Option Addr} {n c : Nat} (h : asLen op = some (x, t)) (ht : elemSize P t = some s) (hx : ρ x = .slice a n c) (hk : K (.int .i64 n) w) : OpK P ρ ⟨d, op, ty, pos, af, gd⟩ w K := by
  unfold Go.Kx.asLen at h
  unfold elemSize at ht
  split at h
  · rename_i args ats
    split at h
    · rename_i x' t' h1 h2
      simp only [Option.some.injEq, Prod.mk.injEq] at h
      obtain ⟨rfl, rfl⟩ := h
      obtain rfl := arr_of_list h1
      obtain rfl := arr_of_list h2
      split at ht
      · rename_i e he
        exact OpK.len he hx hk
      · cases ht
    · cases h
  · cases h

def callOf (L : List Nat) (dst v : Nat) (c : Code) : Option FuncId :=
  match canR c with
  | some ⟨[(op, _)], (d, 1) :: b⟩ => match asCall op with
    | some (f, [.tmp d2, .tmp v2]) => if d2 == 2 * dst && v2 == 2 * v && d == dst && free L ((d, 1) :: b) then some f else none
    | _ => none
  | _ => none

theorem callOf_sound {P : Program} {n : Nat} {L : List Nat} {dst v : Nat} {c : Code} {f : FuncId} (h : callOf L dst v c = some f) (hf : Callable P f) {rest : List Code} {σ : Fm} {w : World} {Q : Exit → Fm → World → Prop}
    (hc : Calls P f #[σ dst, σ v] w fun en w' => ∃ x, en = .returned x ∧ ∀ σ', σ' dst = x → (∀ t ∈ L, σ' t = σ t) → CWL P n rest σ' w' Q) : CWL P n (c :: rest) σ w Q := by
  unfold callOf at h
  split at h
  · rename_i op ty d b hcan
    split at h
    · rename_i f' d2 v2 hop
      split at h
      · rename_i hh
        simp only [Option.some.injEq] at h
        subst h
        simp only [Bool.and_eq_true, beq_iff_eq] at hh
        obtain ⟨⟨⟨rfl, rfl⟩, rfl⟩, hfree⟩ := hh
        refine CWL.reg hcan (OpK.asCall hop hf rfl ?_)
        simp only [List.map_cons, List.map_nil, ev_tmp, enF_two]
        refine hc.mono fun en w' ⟨x, he, hx⟩ => ⟨x, he, hx _ ?_ fun t ht => ?_⟩
        · rw [outF_head]; simp
        · rw [outF_free hfree ht, upd_odd _ _ _ _ (by omega), enF_two]
      · cases h
    · cases h
  · cases h

section
variable {P : Program} {n : Nat} {e : TypeId} {w0 : World} {d0 : Value} {S : Nat → Prop} {full : Bool} {tab : List (Nat × Ap)} {L : List Nat} {dst : Nat} {rest : List Code}

/-- The value stands in a slot. -/
def Has (w0 : World) (S : Nat → Prop) (ty : Ty) (v : V) (s : Nat) (σ : Fm) : Prop := ∃ cs, Rep w0 S ty v cs ∧ σ s = ldv ty cs

theorem call_step (hs : Sound P e full tab) (hS : Clear w0 S d0) {c : Code} {s : Nat} {f : FuncId} {fx : Bool} {wt : Wt} {v : V} (hc : callOf L dst s c = some f) (hf : apAt tab f = some (.val fx wt)) :
    Step P n e w0 d0 dst L (Has w0 S wt.ty v s) (c :: rest) rest (encW fx wt v) := by
  intro σ w bs Q ⟨cs, hr, hv⟩ hg hl hk
  obtain ⟨hcall, hok⟩ := hs.ok f _ hf
  refine callOf_sound hc hcall ?_
  rw [hv]
  refine (hok w S v cs (σ dst) bs (hr.keep (hS.keep hg)) hg.own (hS.step hg) hl).mono fun en w' ⟨d', he, hg'⟩ => ⟨d', he, fun σ' hd hL => ?_⟩
  exact hk σ' w' (by rw [hd]; exact hg.trans hg') hL
end

/-! ### A bracket that asks whether the message is flexible -/
def condFlex (x : Sl) (L : List Nat) (cs : List Code) : Option (Code × Code × List Code) :=
  match cs with
  | c1 :: .cond (.tmp tc') A B :: rest =>
    match canR c1, x.flx with
    | some ⟨[], (tc, s) :: b⟩, some fl => if s == 2 * fl && tc == tc' && free (x.dst :: L) ((tc, s) :: b) then some (A, B, rest) else none
    | _, _ => none
  | _ => none

theorem condFlex_sound {P : Program} {n : Nat} {x : Sl} {L : List Nat} {cs rest : List Code} {A B : Code} (h : condFlex x L cs = some (A, B, rest)) {σ : Fm} {w : World} {Q : Exit → Fm → World → Prop} {fx : Bool}
    (hfl : ∀ t, x.flx = some t → σ t = .bool fx) (hk : ∀ σ', σ' x.dst = σ x.dst → (∀ t ∈ L, σ' t = σ t) → CWL P n (flat (if fx then A else B)) σ' w (Then (fun σ' w' => CWL P n rest σ' w' Q) Q)) :
    CWL P n cs σ w Q := by
  unfold condFlex at h
  split at h
  · rename_i c1 tc' A' B' rest'
    split at h
    · rename_i tc s b fl hcan hflx
      split at h
      · rename_i hh
        simp only [Option.some.injEq, Prod.mk.injEq] at h
        obtain ⟨rfl, rfl, rfl⟩ := h
        simp only [Bool.and_eq_true, beq_iff_eq] at hh
        obtain ⟨⟨rfl, rfl⟩, hfree⟩ := hh
        refine CWL.reg hcan ?_
        simp only [RC]
        refine CWL.cons (CW.cond (t := fx) ?_ (CW.of_flat (hk _ ?_ fun t ht => ?_)))
        · simp only [ev_tmp, outF_head, enF_two]; exact hfl fl hflx
        · rw [outF_free hfree (by simp), enF_two]
        · rw [outF_free hfree (by simp [ht]), enF_two]
      · cases h
    · cases h
  · cases h

/-! ### A value is written -/
def Wt.two : Wt → Bool
  | .str | .nstr | .byt | .nbyt => true
  | _ => false

theorem encW_one {w : Wt} (h : w.two = false) (fx : Bool) (v : V) : encW fx w v = encW false w v := by
  cases w <;> simp [Wt.two] at h <;> cases v <;> rfl

def oneCall (tab : List (Nat × Ap)) (L : List Nat) (dst v : Nat) (fx : Bool) (w : Wt) (cs : List Code) : Bool :=
  match cs with
  | [c] => match callOf L dst v c with
    | some f => apAt tab f == some (.val fx w)
    | none => false
  | _ => false

theorem rep_int {w : World} {S : Nat → Prop} {k : IntKind} {v : V} {cs : List Value} (h : Rep w S (.int k) v cs) : ∃ m, v = .i m ∧ cs = [.int k m] ∧ k.wrap m = m := by
  cases v with
  | i m => exact ⟨m, rfl, h.1, h.2⟩
  | _ => exact h.elim

def isI8 (P : Program) (t : TypeId) : Bool := match P.underlying t with | some (.int .i8) => true | _ => false
theorem isI8_spec {P : Program} {t : TypeId} (h : isI8 P t = true) : P.underlying t = some (.int .i8) := by
  unfold isI8 at h
  split at h
  · assumption
  · cases h

/-- The value of slot v goes into another slot first. -/
def movOf (L : List Nat) (v : Nat) (c : Code) : Option Nat :=
  match canR c with
  | some ⟨[], (v', v2) :: b⟩ => if v2 == 2 * v && free L ((v', v2) :: b) then some v' else none
  | _ => none

def chkOut (P : Program) (tab : List (Nat × Ap)) (x : Sl) (L : List Nat) (v : Nat) (w : Wt) (cs : List Code) : Option (List Code) :=
  if w.two && x.flx.isSome then
    match condFlex x (v :: L) cs with
    | some (A, B, rest) => if oneCall tab L x.dst v true w (flat A) && oneCall tab L x.dst v false w (flat B) then some rest else none
    | none => none
  else if w = .e8 then
    match cs with
    | c :: c2 :: rest => match movOf (x.dst :: L) v c with
      | some v' => if oneCall tab L x.dst v' false .i8 [c2] then some rest else none
      | none => none
    | _ => none
  else match cs with
    | c :: rest => if oneCall tab L x.dst v false w [c] then some rest else none
    | _ => none

/-- What the slots of a function that writes hold: whether the message is flexible. -/
def Flx (x : Sl) (fx : Bool) (σ : Fm) : Prop := ∀ t, x.flx = some t → σ t = .bool fx

section
variable {P : Program} {n : Nat} {e : TypeId} {w0 : World} {d0 : Value} {S : Nat → Prop} {full : Bool} {tab : List (Nat × Ap)} {L : List Nat} {x : Sl} {rest : List Code}

theorem oneCall_step (hs : Sound P e full tab) (hS : Clear w0 S d0) {s : Nat} {fx : Bool} {wt : Wt} {v : V} {cs : List Code} {dst : Nat} (h : oneCall tab L dst s fx wt cs = true) :
    Step P n e w0 d0 dst L (Has w0 S wt.ty v s) cs [] (encW fx wt v) := by
  unfold oneCall at h
  split at h
  · rename_i c
    split at h
    · rename_i f hc
      exact call_step hs hS hc (by simpa using h)
    · cases h
  · cases h

theorem chkOut_step (hs : Sound P e full tab) (hS : Clear w0 S d0) {s : Nat} {fx : Bool} (hfx : x.flx = none → fx = false) {wt : Wt} {v : V} {cs : List Code} (h : chkOut P tab x L s wt cs = some rest) :
    Step P n e w0 d0 x.dst L (fun σ => Flx x fx σ ∧ Has w0 S wt.ty v s σ) cs rest (encW fx wt v) := by
  unfold chkOut at h
  split at h
  · rename_i h2
    split at h
    · rename_i A B rest' hc
      split at h
      · rename_i hh
        simp only [Option.some.injEq] at h
        subst h
        simp only [Bool.and_eq_true] at hh
        intro σ w bs Q ⟨hfl, cs0, hr, hv⟩ hg hl hk
        refine condFlex_sound hc hfl fun σ1 hd hL => ?_
        have hHas : Has w0 S wt.ty v s σ1 := ⟨cs0, hr, (hL s (by simp)).trans hv⟩
        have hstep : Step P n e w0 d0 x.dst L (Has w0 S wt.ty v s) (flat (if fx then A else B)) [] (encW fx wt v) := by
          cases fx
          · exact oneCall_step hs hS hh.2
          · exact oneCall_step hs hS hh.1
        refine hstep.inner hHas (by rw [hd]; exact hg) hl fun σ' w' hg' he => hk σ' w' hg' fun t ht => (he t ht).trans (hL t (by simp [ht]))
      · cases h
    · cases h
  · rename_i h2
    have henc : encW fx wt v = encW false wt v := by
      by_cases hw : wt.two = true
      · rw [hfx (by cases hx : x.flx with | none => rfl | some _ => rw [hx] at h2; simp [hw] at h2)]
      · exact encW_one (by simpa using hw) fx v
    rw [henc]
    split at h
    · rename_i hw8
      subst hw8
      split at h
      · rename_i c c2 rest'
        split at h
        · rename_i v' hc
          split at h
          · rename_i h1
            simp only [Option.some.injEq] at h
            subst h
            intro σ w bs Q ⟨hfl, cs0, hr, hv⟩ hg hl hk
            unfold movOf at hc
            split at hc
            · rename_i v'' v2 b hcan
              split at hc
              · rename_i hh
                simp only [Option.some.injEq] at hc
                subst hc
                simp only [Bool.and_eq_true, beq_iff_eq] at hh
                obtain ⟨rfl, hfree⟩ := hh
                refine CWL.reg hcan ?_
                simp only [RC]
                have hkeep : ∀ t ∈ x.dst :: L, outF ((v'', 2 * s) :: b) (enF σ) t = σ t := fun t ht => by rw [outF_free hfree ht, enF_two]
                have hd := hkeep x.dst (by simp)
                have henc8 : encW false .e8 v = encW false .i8 v := by cases v <;> rfl
                rw [henc8] at hl hk
                have hstep : Step P n e w0 d0 x.dst L (Has w0 S Wt.i8.ty v v'') [c2] [] (encW false .i8 v) := oneCall_step hs hS h1
                exact CWL.append (a := [c2]) (b := rest') (hstep.inner (cs := rest') (σ := outF ((v'', 2 * s) :: b) (enF σ)) (w := w) (bs := bs)
                  ⟨cs0, hr, by rw [outF_head, enF_two]; exact hv⟩ (by rw [hd]; exact hg) hl fun σ' w' hg' he => hk σ' w' hg' fun t ht => (he t ht).trans (hkeep t (by simp [ht])))
              · cases hc
            · cases hc
          · cases h
        · cases h
      · cases h
    · split at h
      · rename_i c rest'
        split at h
        · rename_i h1
          simp only [Option.some.injEq] at h
          subst h
          intro σ w bs Q ⟨hfl, hHas⟩ hg hl hk
          exact CWL.append (a := [c]) (b := rest') ((oneCall_step hs hS h1).inner hHas hg hl hk)
        · cases h
      · cases h
end

end Go.Kx
