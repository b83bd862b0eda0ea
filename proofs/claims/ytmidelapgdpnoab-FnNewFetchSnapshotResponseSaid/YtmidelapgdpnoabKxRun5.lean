/- Any one operation but a call of a function, over plain data. -/
import Derived.Test.YtmidelapgdpnoabKxRun4
import Derived.Deep.OwnRows
import Derived.Laws.Small
namespace Go.Kx
open Go.RowKit
set_option linter.unusedSimpArgs false
set_option linter.unusedVariables false

def asPtrs : List AV → Option (List (Nat × Nat))
  | [] => some []
  | .c (.ptr b o) :: l => (asPtrs l).map ((b, o) :: ·)
  | _ => none

def abuiltin (P : Program) (h : AH) (b : Builtin) (ps : List AV) (ts : List TypeId) : Option (AV × AH) :=
  match b, ps, ts with
  | .append, [v, x], [t, u] => aappend P h t u v x
  | .len, [.c (.sl _ n _)], [t] => match P.underlying t with | some (.slice _) => some (.c (.lit (.int .i64 n)), h) | _ => none
  | .len, [.c (.lit (.slice none 0 0))], [t] => match P.underlying t with | some (.slice _) => some (.c (.lit (.int .i64 0)), h) | _ => none
  | .len, [.c (.lit (.string s))], [t] => match P.underlying t with | some .string => some (.c (.lit (.int .i64 s.size)), h) | _ => none
  | .len, [.c (.lit (.map none))], [t] => match P.underlying t with | some (.map _ _) => some (.c (.lit (.int .i64 0)), h) | _ => none
  | .min, [.c (.lit (.int k a)), .c (.lit (.int _ b))], _ => some (.c (.lit (.int k (if b < a then b else a))), h)
  | .max, [.c (.lit (.int k a)), .c (.lit (.int _ b))], _ => some (.c (.lit (.int k (if b > a then b else a))), h)
  | .copy, [.c (.sl _ _ _), .c (.lit (.slice none 0 0))], [t, _] => match P.underlying t with
    | some (.slice e) => if (P.info? e).isSome then some (.c (.lit (.int .i64 0)), h) else none
    | _ => none
  | _, _, _ => none

def aop (P : Program) (h : AH) (ρ : Operand → AV) (op : Op) : Option (AV × AH) :=
  match op with
  | .nilCheck x => match ρ x with
    | .c (.ptr b o) => some (.c (.ptr b o), h)
    | _ => none
  | .alloc t => match P.info? t with
    | some i => match i.zero with
      | some z => some (.c (.ptr h.n 0), h.push ⟨t, none, lits z.cells.toList⟩)
      | none => none
    | none => none
  | .box t x => if (ρ x).ok then some (.c (.ptr h.n 0), h.push ⟨t, none, (ρ x).cells⟩) else none
  | .store t a x => match ρ a with
    | .c (.ptr b o) => match h.get b with
      | some B =>
        if (ρ x).ok && (P.info? t).map (·.size) == some (ρ x).cells.length && Nat.ble (o + (ρ x).cells.length) B.cs.length then some (AV.un, h.put b (some ⟨B.e, B.row, splice B.cs (ρ x).cells o⟩)) else none
      | none => none
    | _ => none
  | .build t ps => match places P t with
    | some (c0, pl) => (afill pl c0 (ps.toList.map fun x => (x.1, ρ x.2))).map fun cs => (.agg cs, h)
    | none => none
  | .buildSlice t n ps => match abuildS P t n (ps.toList.map fun x => (x.1, ρ x.2)) with
    | some (e, cs) => some (.c (.sl h.n n (some n)), h.push ⟨e, none, cs⟩)
    | none => none
  | .makeFunc f a b => match a.toList, asPtrs (b.toList.map ρ) with
    | [], some l => some (.c (.fn f l), h)
    | _, _ => none
  | .slice t x none (some hi) none => match P.underlying t, ρ x, ρ hi with
    | some (.slice e), .c (.sl b n c), .c (.lit (.int _ (.ofNat m))) => match h.get b, P.info? e with
      | some B, some i => if Nat.ble m n && rowFit B i.size n c then some (.c (.sl b m c), h) else none
      | _, _ => none
    | some (.slice e), .c (.lit (.slice none 0 0)), .c (.lit (.int _ (.ofNat 0))) => if (P.info? e).isSome then some (.c (.lit (.slice none 0 0)), h) else none
    | _, _, _ => none
  | .slice t x none none none => match P.underlying t, ρ x with
    | some (.array n e), .c (.ptr b 0) => if (P.info? e).isSome && Nat.blt 0 n then some (.c (.sl b n (some n)), h) else none
    | _, _ => none
  | .makeSlice t l c => match P.underlying t, ρ l, ρ c with
    | some (.slice e), .c (.lit (.int _ (.ofNat n))), .c (.lit (.int _ (.ofNat m))) => match P.info? e with
      | some i => match i.zero with
        | some z => if Nat.beq n m && Nat.beq i.size 1 && z.oneCell' && Nat.ble (i.bytes * n) 281474976710656 && Nat.ble n 1048576 then some (.c (.sl h.n n (some n)), h.push ⟨e, none, lits (madeCells #[z] n).toList⟩) else none
        | none => none
      | none => none
    | _, _, _ => none
  | .call c => match c.callee with
    | .builtin b => abuiltin P h b (c.args.toList.map ρ) c.argTypes.toList
    | _ => none
  | op => (apure P h.get ρ op).map fun v => (v, h)
where
  rowFit (B : AB) (size n : Nat) : Option Nat → Bool
    | some c => Nat.ble n c
    | none => match B.row with
      | some s => Nat.ble (n * s) B.cs.length
      | none => false

def Out (w0 : World) (E : En) (h' : AH) (v : AV) (u : Value) (w' : World) : Prop := ∃ E', Le E E' ∧ v.is E' u ∧ Hp w0 E' h' w'
theorem Out.same {w0 : World} {E : En} {h : AH} {v : AV} {u : Value} {w : World} (k : Hp w0 E h w) (hv : v.is E u) : Out w0 E h v u w := ⟨E, Le.refl E, hv, k⟩

section
variable {P : Program} {ρ : Operand → Value} {w : World} {K : Value → World → Prop} {d : Option Tmp} {ty : TypeId} {pos : String} {af : Array Edge} {g : Option (Nat × Bool)}
theorem OpK.bi {b : Builtin} {args : Array Operand} {ats : Array TypeId} {v : Value} {w' : World} (hr : ∀ cs, (builtin b ats ty cs (args.map ρ)).run P w = .ok (.value v) w') (h : K v w') : OpK P ρ ⟨d, .call ⟨.builtin b, args, ats⟩, ty, pos, af, g⟩ w K := by
  simp only [OpK, execOp, resolve, invoke, Sem.run_bind, Sem.run_pure, Result.andThen_ok, hr, After]
  exact h
end

theorem abuiltin_sound {P : Program} {E : En} {h h' : AH} {w0 w : World} {b : Builtin} {ps : List AV} {vs : List Value} {ts : List TypeId} {r : AV} {ty : TypeId} (k : Hp w0 E h w) (hp : All2 (AV.is E) ps vs)
    (ha : abuiltin P h b ps ts = some (r, h')) : ∃ v w', (∀ cs, (builtin b ts.toArray ty cs vs.toArray).run P w = .ok (.value v) w') ∧ Out w0 E h' r v w' := by
  unfold abuiltin at ha
  split at ha
  · cases hp with | cons h1 hp => cases hp with | cons h2 hp => cases hp with | nil =>
    obtain ⟨rv, w', hr, hE⟩ := aappend_sound (ty := ty) k h1 h2 ha
    exact ⟨rv, w', fun cs => by simp only [builtin, Sem.run_bind]; rw [show (#[_, _] : Array TypeId) = [_, _].toArray from rfl] at hr; rw [hr]; rfl, hE⟩
  · cases hp with | cons h1 hp => cases hp with | nil =>
    split at ha
    · rename_i e ht
      cases ha
      obtain ⟨p, hp, rfl⟩ := is_sl h1
      exact ⟨_, w, fun cs => by simp [builtin, Builtin.len_, run_underlying ht, goInt], Out.same k rfl⟩
    · cases ha
  · cases hp with | cons h1 hp => cases hp with | nil =>
    split at ha
    · rename_i e ht
      cases ha
      obtain rfl := is_lit h1
      exact ⟨_, w, fun cs => by simp [builtin, Builtin.len_, run_underlying ht, goInt], Out.same k rfl⟩
    · cases ha
  · cases hp with | cons h1 hp => cases hp with | nil =>
    split at ha
    · rename_i ht
      cases ha
      obtain rfl := is_lit h1
      exact ⟨_, w, fun cs => by simp [builtin, Builtin.len_, run_underlying ht, goInt], Out.same k rfl⟩
    · cases ha
  · cases hp with | cons h1 hp => cases hp with | nil =>
    split at ha
    · rename_i e1 e2 ht
      cases ha
      obtain rfl := is_lit h1
      exact ⟨_, w, fun cs => by simp [builtin, Builtin.len_, run_underlying ht, goInt], Out.same k rfl⟩
    · cases ha
  · cases hp with | cons h1 hp => cases hp with | cons h2 hp => cases hp with | nil =>
    cases ha
    obtain rfl := is_lit h1
    obtain rfl := is_lit h2
    exact ⟨_, w, fun cs => by simp only [builtin, Sem.run_bind, run_min_int2, Result.andThen_ok, Sem.run_pure], Out.same k rfl⟩
  · cases hp with | cons h1 hp => cases hp with | cons h2 hp => cases hp with | nil =>
    cases ha
    obtain rfl := is_lit h1
    obtain rfl := is_lit h2
    exact ⟨_, w, fun cs => by simp only [builtin, Sem.run_bind, run_max_int2, Result.andThen_ok, Sem.run_pure], Out.same k rfl⟩
  · cases hp with | cons h1 hp => cases hp with | cons h2 hp => cases hp with | nil =>
    split at ha
    · rename_i e ht
      split at ha
      · rename_i hi
        cases ha
        obtain ⟨i, hi⟩ := Option.isSome_iff_exists.1 hi
        obtain ⟨p, hp, rfl⟩ := is_sl h1
        obtain rfl := is_lit h2
        exact ⟨_, w, fun cs => by simp [builtin, Builtin.copy_, run_underlying ht, Builtin.lenOf, sizeOf, typeInfo, hi, Builtin.firstCells, storeCells, goInt], Out.same k rfl⟩
      · cases ha
    · cases ha
  · cases ha

theorem asPtrs_is {E : En} : ∀ {ps : List AV} {vs : List Value} {l : List (Nat × Nat)}, All2 (AV.is E) ps vs → asPtrs ps = some l → All2 (PtrIs E) l vs := by
  intro ps
  induction ps with
  | nil => intro vs l h k; cases h; cases k; exact .nil
  | cons x ps ih =>
    intro vs l h k
    cases h with
    | cons h1 h2 =>
      unfold asPtrs at k
      split at k
      · rename_i e; cases e
      · rename_i b o l' e
        cases e
        obtain ⟨m, hm, rfl⟩ := Option.map_eq_some_iff.1 k
        exact .cons h1 (ih h2 hm)
      · cases k

theorem map_is {E : En} {ρa : Operand → AV} {ρ : Operand → Value} (hρ : ∀ x, (ρa x).is E (ρ x)) (l : List Operand) : All2 (AV.is E) (l.map ρa) (l.map ρ) := by
  induction l with
  | nil => exact .nil
  | cons x l ih => exact .cons (hρ x) ih

theorem Out.new {w0 : World} {E : En} {h : AH} {w : World} (k : Hp w0 E h w) {t : TypeId} {cs : List AC} {vs : List Value} (cap : Nat) (hb : All2 (AC.is E) cs vs) {v : AV} {u : Value}
    (hv : v.is (E ++ [(w.heap.size, cap)]) u) : Out w0 E (h.push ⟨t, none, cs⟩) v u (w.alloc (.cells vs.toArray t)) := ⟨_, Le.snoc _ _, hv, k.push cap hb rfl⟩

theorem new_ptr {E : En} {h : AH} {w0 w : World} (k : Hp w0 E h w) (cap : Nat) : (AV.c (.ptr h.n 0)).is (E ++ [(w.heap.size, cap)]) (.pointer (some ⟨w.heap.size, 0, none⟩)) :=
  ⟨(w.heap.size, cap), by rw [← k.en]; exact get_snoc _ _, rfl⟩
theorem new_sl {E : En} {h : AH} {w0 w : World} (k : Hp w0 E h w) (n c : Nat) : (AV.c (.sl h.n n (some c))).is (E ++ [(w.heap.size, c)]) (.slice (some ⟨w.heap.size, 0, none⟩) n c) :=
  ⟨(w.heap.size, c), by rw [← k.en]; exact get_snoc _ _, rfl⟩

theorem OpK.alloc' {P : Program} {ρ : Operand → Value} {w : World} {K : Value → World → Prop} {d : Option Tmp} {tt t : TypeId} {pos : String} {af : Array Edge} {gd : Option (Nat × Bool)} {i : TypeInfo} {z : Value}
    (hi : P.info? t = some i) (hz : i.zero = some z) (h : K (.pointer (some ⟨w.heap.size, 0, none⟩)) (w.alloc (.cells z.cells t))) : OpK P ρ ⟨d, .alloc t, tt, pos, af, gd⟩ w K := OpK.allocArr hi hz h

theorem OpK.storeAny {P : Program} {ρ : Operand → Value} {w : World} {K : Value → World → Prop} {d : Option Tmp} {tt t te : TypeId} {pos : String} {af : Array Edge} {gd : Option (Nat × Bool)} {x y : Operand} {g o : Nat} {cur us : List Value} {v : Value}
    (hi : (P.info? t).map (·.size) = some us.length) (hx : ρ x = .pointer (some ⟨g, o, none⟩)) (hy : ρ y = v) (hv : v.cells = us.toArray) (h1 : ∀ u ∈ us, u.oneCell' = true) (hg : w.heap[g]? = some (.cells cur.toArray te (0, 0))) (hl : o + us.length ≤ cur.length)
    (h : K undef (w.setRow g (splice cur us o).toArray)) : OpK P ρ ⟨d, .store t x y, tt, pos, af, gd⟩ w K := by
  obtain ⟨i, hi', his⟩ := Option.map_eq_some_iff.1 hi
  have hr := run_storeCells_at (P := P) g o te us 0 cur.toArray w hg (by simpa using hl) h1
  simp only [Nat.add_zero] at hr
  simp only [OpK, execOp, hx, hy, Instr.storeAt, Instr.sureAddr, Sem.run_bind, Sem.run_pure, Result.andThen_ok, storeVar, sizeOf, typeInfo, run_program, hi', hv]
  simp [his, hr, After]
  unfold splice at h
  simpa using h

theorem aop_sound {P : Program} {E : En} {h h' : AH} {w0 w : World} {ρa : Operand → AV} {ρ : Operand → Value} (hρ : ∀ x, (ρa x).is E (ρ x)) (hc : ∀ v, ρ (.const v) = v) (k : Hp w0 E h w)
    {d : Option Tmp} {op : Op} {ty : TypeId} {pos : String} {af : Array Edge} {g : Option (Nat × Bool)} {r : AV} (ha : aop P h ρa op = some (r, h')) :
    OpK P ρ ⟨d, op, ty, pos, af, g⟩ w fun u w' => Out w0 E h' r u w' := by
  unfold aop at ha
  split at ha
  · rename_i x
    split at ha
    · rename_i b o hx
      cases ha
      obtain ⟨p, hp, hv⟩ := is_ptr (hx ▸ hρ x)
      exact OpK.nilCheck hv (Out.same k ⟨p, hp, rfl⟩)
    · cases ha
  · rename_i t
    split at ha
    · rename_i i hi
      split at ha
      · rename_i z hz
        cases ha
        refine OpK.alloc' hi hz ?_
        have := Out.new k (t := t) 0 (lits_is E z.cells.toList) (new_ptr k 0)
        rwa [Array.toArray_toList] at this
      · cases ha
    · cases ha
  · rename_i t x
    split at ha
    · rename_i ho
      cases ha
      obtain ⟨us, h1, h2, _⟩ := (hρ x).cells ho
      refine OpK.box ?_
      rw [h2]
      exact Out.new k 0 h1 (new_ptr k 0)
    · cases ha
  · rename_i t a x
    split at ha
    · rename_i b o hx
      split at ha
      · rename_i B hB
        split at ha
        · rename_i hcond
          simp only [Bool.and_eq_true, beq_iff_eq] at hcond
          obtain ⟨⟨ho, hsz⟩, hle⟩ := hcond
          have hle := Nat.le_of_ble_eq_true hle
          cases ha
          obtain ⟨us, h1, h2, h3⟩ := (hρ x).cells ho
          obtain ⟨p, hp, hv⟩ := is_ptr (hx ▸ hρ a)
          obtain ⟨q, hq, vs, tl, k1, k2, k3⟩ := k.rd b B hB
          rw [hp] at hq; cases hq
          have hl : (ρa x).cells.length = us.length := h1.len
          have hlc : B.cs.length = vs.length := k1.len
          rw [hl] at hsz hle
          rw [hlc] at hle
          refine OpK.storeAny hsz hv rfl h2 h3 k2 (by simp; omega) ?_
          have hsp : splice (vs ++ tl) us o = splice vs us o ++ tl := by
            unfold splice
            rw [List.take_append_of_le_length (by omega), List.drop_append_of_le_length (by omega)]
            simp only [List.append_assoc]
          refine ⟨E, Le.refl E, AV.un_is E, k.write hB hp rfl rfl rfl (by simp [World.setRow]) (fun i hi => setRow_other w p.1 i _ hi) ⟨splice vs us o, tl, k1.splice h1 o, ?_, ?_⟩⟩
          · rw [hsp]; exact setRow_heap w p.1 _ _ _ _ k2
          · have hsl : (splice vs us o).length = vs.length := splice_length hle
            simp only
            split
            · rename_i hr; rw [hr] at k3; exact k3
            · rename_i s hr; rw [hr] at k3; rw [List.length_append, hsl, ← List.length_append]; exact k3
        · cases ha
      · cases ha
    · cases ha
  · rename_i t ps
    split at ha
    · rename_i c0 pl hpl
      obtain ⟨cs, hf, he⟩ := Option.map_eq_some_iff.1 ha
      cases he
      obtain ⟨vs, h1, h2⟩ := places_built hpl (map_parts hρ ps.toList) hf
      exact OpK.build h2 (Out.same k ⟨vs, h1, rfl⟩)
    · cases ha
  · rename_i t n ps
    split at ha
    · rename_i e cs he
      cases ha
      obtain ⟨vs, h1, h2⟩ := abuildS_sound (qs := ps.map fun x => (x.1, ρ x.2)) he (by rw [Array.toList_map]; exact map_parts hρ ps.toList) w
      exact OpK.buildS h2 (Out.new k n h1 (new_sl k n n))
    · cases ha
  · rename_i f a b
    split at ha
    · rename_i l hal hbl
      cases ha
      refine OpK.makeFunc (Out.same k ⟨b.toList.map ρ, asPtrs_is (map_is hρ b.toList) hbl, ?_⟩)
      have : a = #[] := by apply Array.ext'; simpa using hal
      have hb : (List.map ρ b.toList).toArray = b.map ρ := by rw [← Array.toList_map, Array.toArray_toList]
      rw [this, hb]
      simp
    · cases ha
  · rename_i t x hi
    split at ha
    · rename_i e b n c k' m ht hx hhi
      split at ha
      · rename_i B i hB hi'
        split at ha
        · rename_i hcond
          simp only [Bool.and_eq_true] at hcond
          cases ha
          obtain ⟨p, hp, hv⟩ := is_sl (hx ▸ hρ x)
          have hm := Nat.le_of_ble_eq_true hcond.1
          have hn : n ≤ c.getD p.2 := by
            have h2 := hcond.2
            unfold aop.rowFit at h2
            cases c with
            | some c => exact Nat.le_of_ble_eq_true h2
            | none =>
              simp only at h2
              split at h2
              · rename_i s hr
                obtain ⟨q, hq, vs, tl, k1, k2, k3⟩ := k.rd b B hB
                rw [hp] at hq; cases hq
                rw [hr] at k3
                have h3 := Nat.le_of_ble_eq_true h2
                rw [show B.cs.length = vs.length from k1.len] at h3
                obtain ⟨k31, _, k33⟩ := k3
                rw [List.length_append] at k33
                have : n * s ≤ p.2 * s := by omega
                exact Nat.le_of_mul_le_mul_right this k31
              · cases h2
          have hm0 : (m : Int) ≤ ((c.getD p.2 : Nat) : Int) := by omega
          have hhv : ρ hi = .int k' (m : Int) := is_lit (hhi ▸ hρ hi)
          simp only [OpK, execOp, Option.map_some, Option.map_none, hv, hhv, Instr.sliceAt, Sem.run_bind, run_underlying ht, Result.andThen_ok]
          have he : P.underlying t = some (.slice (P.elem t)) := by rw [ht]; simp [Program.elem, ht]
          rw [run_slice_h w t (some ⟨p.1, 0, none⟩) n (c.getD p.2) he k' (m : Int) (by omega) hm0]
          have hel : P.elem t = e := by simp [Program.elem, ht]
          simp [sizeOf, typeInfo, hel, hi', After, sliced]
          refine Out.same k ⟨p, hp, ?_⟩
          split <;> simp [Addr.add_mid]
        · cases ha
      · cases ha
    · rename_i e k' ht hx hhi
      split at ha
      · rename_i hie
        cases ha
        obtain ⟨i, hi'⟩ := Option.isSome_iff_exists.1 hie
        have hhv : ρ hi = .int k' ((0 : Nat) : Int) := is_lit (hhi ▸ hρ hi)
        have hv := is_lit (hx ▸ hρ x)
        simp only [OpK, execOp, Option.map_some, Option.map_none, hv, hhv, Instr.sliceAt, Sem.run_bind, run_underlying ht, Result.andThen_ok]
        have he : P.underlying t = some (.slice (P.elem t)) := by rw [ht]; simp [Program.elem, ht]
        rw [run_slice_h w t none 0 0 he k' ((0 : Nat) : Int) (by omega) (by omega)]
        have hel : P.elem t = e := by simp [Program.elem, ht]
        simp [sizeOf, typeInfo, hel, hi', After, sliced]
        exact Out.same k rfl
      · cases ha
    · cases ha
  · rename_i t x
    split at ha
    · rename_i n e b ht hx
      split at ha
      · rename_i hcond
        simp only [Bool.and_eq_true] at hcond
        cases ha
        obtain ⟨i, hi'⟩ := Option.isSome_iff_exists.1 hcond.1
        obtain ⟨p, hp, hv⟩ := is_ptr (hx ▸ hρ x)
        have hn : ¬ n = 0 := by have := hcond.2; simp [Nat.blt_eq] at this; omega
        simp only [OpK, execOp, Option.map_none, hv, Instr.sliceAt, Sem.run_bind, run_underlying ht, Result.andThen_ok]
        simp [Instr.sureAddr, Instr.sliceBounds, sizeOf, typeInfo, hi', After, hn, Addr.add_mid]
        exact Out.same k ⟨p, hp, rfl⟩
      · cases ha
    · cases ha
  · rename_i t l c
    split at ha
    · rename_i e k1 n k2 m ht hl hcc
      split at ha
      · rename_i i hi
        split at ha
        · rename_i z hz
          split at ha
          · rename_i hcond
            simp only [Bool.and_eq_true] at hcond
            obtain ⟨⟨⟨⟨h1, h2⟩, h3⟩, h4⟩, h5⟩ := hcond
            have h1 := Nat.eq_of_beq_eq_true h1
            have h2 := Nat.eq_of_beq_eq_true h2
            have h4 := Nat.le_of_ble_eq_true h4
            have h5 := Nat.le_of_ble_eq_true h5
            cases ha
            subst h1
            have hr := run_make_row (P := P) t e i z ht hi hz h2 (one_cells h3) k1 k2 n h4 (by omega) w
            have hlv : ρ l = .int k1 (n : Int) := is_lit (hl ▸ hρ l)
            have hcv : ρ c = .int k2 (n : Int) := is_lit (hcc ▸ hρ c)
            simp only [OpK, execOp, hlv, hcv, Sem.run_bind, hr, Result.andThen_ok, Sem.run_pure, After]
            have := Out.new k (t := e) n (lits_is E (madeCells #[z] n).toList) (new_sl k n n)
            rwa [Array.toArray_toList] at this
          · cases ha
        · cases ha
      · cases ha
    · cases ha
  · rename_i c
    split at ha
    · rename_i b hb
      obtain ⟨callee, args, ats⟩ := c
      simp only at hb
      subst hb
      obtain ⟨v, w', hr, ho⟩ := abuiltin_sound (ty := ty) k (map_is hρ args.toList) ha
      refine OpK.bi (v := v) (w' := w') (fun cs => ?_) ho
      have := hr cs
      rw [← Array.toList_map, Array.toArray_toList, Array.toArray_toList] at this
      exact this
    · cases ha
  · obtain ⟨v, hv, he⟩ := Option.map_eq_some_iff.1 ha
    cases he
    refine After.mono (apure_OpK hρ hc k.rd hv) fun u w' ⟨h1, h2⟩ => ?_
    subst h2
    exact Out.same k h1

end Go.Kx
