/- Library texts Run5 Run6 Run7, joined. -/
import Derived.Test.YthcpchmmpnakaaaGreatDoorKxRun4
import Derived.Deep.OwnRows
import Derived.Laws.Small
/- Any one operation but a call of a function, over plain data. -/
namespace Go.Kx
open Go.RowKit
set_option linter.unusedSimpArgs false
set_option linter.unusedVariables false

def asPtrs : List AV → Option (List (Nat × Nat))
  | [] => some []
  | .c (.ptr b o) :: l => (asPtrs l).map ((b, o) :: ·)
  | _ => none

def abuiltin (P : Program) (h : AH) (b : Builtin) (ps : List AV) (ts : List TypeId) : Option (AV × AH) :=
  match b, ps, ts with
  | .append, [v, x], [t, u] => aappend P h t u v x
  | .len, [.c (.sl _ n _)], [t] => match P.underlying t with | some (.slice _) => some (.c (.lit (.int .i64 n)), h) | _ => none
  | .len, [.c (.lit (.slice none 0 0))], [t] => match P.underlying t with | some (.slice _) => some (.c (.lit (.int .i64 0)), h) | _ => none
  | .len, [.c (.lit (.string s))], [t] => match P.underlying t with | some .string => some (.c (.lit (.int .i64 s.size)), h) | _ => none
  | .len, [.c (.lit (.map none))], [t] => match P.underlying t with | some (.map _ _) => some (.c (.lit (.int .i64 0)), h) | _ => none
  | .min, [.c (.lit (.int k a)), .c (.lit (.int _ b))], _ => some (.c (.lit (.int k (if b < a then b else a))), h)
  | .max, [.c (.lit (.int k a)), .c (.lit (.int _ b))], _ => some (.c (.lit (.int k (if b > a then b else a))), h)
  | .copy, [.c (.sl _ _ _), .c (.lit (.slice none 0 0))], [t, _] => match P.underlying t with
    | some (.slice e) => if (P.info? e).isSome then some (.c (.lit (.int .i64 0)), h) else none
    | _ => none
  | _, _, _ => none

def aop (P : Program) (h : AH) (ρ : Operand → AV) (op : Op) : Option (AV × AH) :=
  match op with
  | .nilCheck x => match ρ x with
    | .c (.ptr b o) => some (.c (.ptr b o), h)
    | _ => none
  | .alloc t => match P.info? t with
    | some i => match i.zero with
      | some z => some (.c (.ptr h.n 0), h.push ⟨t, none, lits z.cells.toList⟩)
      | none => none
    | none => none
  | .box t x => if (ρ x).ok then some (.c (.ptr h.n 0), h.push ⟨t, none, (ρ x).cells⟩) else none
  | .store t a x => match ρ a with
    | .c (.ptr b o) => match h.get b with
      | some B =>
        if (ρ x).ok && (P.info? t).map (·.size) == some (ρ x).cells.length && Nat.ble (o + (ρ x).cells.length) B.cs.length then some (AV.un, h.put b (some ⟨B.e, B.row, splice B.cs (ρ x).cells o⟩)) else none
      | none => none
    | _ => none
  | .build t ps => match places P t with
    | some (c0, pl) => (afill pl c0 (ps.toList.map fun x => (x.1, ρ x.2))).map fun cs => (.agg cs, h)
    | none => none
  | .buildSlice t n ps => match abuildS P t n (ps.toList.map fun x => (x.1, ρ x.2)) with
    | some (e, cs) => some (.c (.sl h.n n (some n)), h.push ⟨e, none, cs⟩)
    | none => none
  | .makeFunc f a b => match a.toList, asPtrs (b.toList.map ρ) with
    | [], some l => some (.c (.fn f l), h)
    | _, _ => none
  | .slice t x none (some hi) none => match P.underlying t, ρ x, ρ hi with
    | some (.slice e), .c (.sl b n c), .c (.lit (.int _ (.ofNat m))) => match h.get b, P.info? e with
      | some B, some i => if Nat.ble m n && rowFit B i.size n c then some (.c (.sl b m c), h) else none
      | _, _ => none
    | some (.slice e), .c (.lit (.slice none 0 0)), .c (.lit (.int _ (.ofNat 0))) => if (P.info? e).isSome then some (.c (.lit (.slice none 0 0)), h) else none
    | _, _, _ => none
  | .slice t x none none none => match P.underlying t, ρ x with
    | some (.array n e), .c (.ptr b 0) => if (P.info? e).isSome && Nat.blt 0 n then some (.c (.sl b n (some n)), h) else none
    | _, _ => none
  | .makeSlice t l c => match P.underlying t, ρ l, ρ c with
    | some (.slice e), .c (.lit (.int _ (.ofNat n))), .c (.lit (.int _ (.ofNat m))) => match P.info? e with
      | some i => match i.zero with
        | some z => if Nat.beq n m && Nat.beq i.size 1 && z.oneCell' && Nat.ble (i.bytes * n) 281474976710656 && Nat.ble n 1048576 then some (.c (.sl h.n n (some n)), h.push ⟨e, none, lits (madeCells #[z] n).toList⟩) else none
        | none => none
      | none => none
    | _, _, _ => none
  | .call c => match c.callee with
    | .builtin b => abuiltin P h b (c.args.toList.map ρ) c.argTypes.toList
    | _ => none
  | op => (apure P h.get ρ op).map fun v => (v, h)
where
  rowFit (B : AB) (size n : Nat) : Option Nat → Bool
    | some c => Nat.ble n c
    | none => match B.row with
      | some s => Nat.ble (n * s) B.cs.length
      | none => false

def Out (w0 : World) (E : En) (h' : AH) (v : AV) (u : Value) (w' : World) : Prop := ∃ E', Le E E' ∧ v.is E' u ∧ Hp w0 E' h' w'
theorem Out.same {w0 : World} {E : En} {h : AH} {v : AV} {u : Value} {w : World} (k : Hp w0 E h w) (hv : v.is E u) : Out w0 E h v u w := ⟨E, Le.refl E, hv, k⟩

section
variable {P : Program} {ρ : Operand → Value} {w : World} {K : Value → World → Prop} {d : Option Tmp} {ty : TypeId} {pos : String} {af : Array Edge} {g : Option (Nat × Bool)}
theorem OpK.bi {b : Builtin} {args : Array Operand} {ats : Array TypeId} {v : Value} {w' : World} (hr : ∀ cs, (builtin b ats ty cs (args.map ρ)).run P w = .ok (.value v) w') (h : K v w') : OpK P ρ ⟨d, .call ⟨.builtin b, args, ats⟩, ty, pos, af, g⟩ w K := by
  simp only [OpK, execOp, resolve, invoke, Sem.run_bind, Sem.run_pure, Result.andThen_ok, hr, After]
  exact h
end

theorem abuiltin_sound {P : Program} {E : En} {h h' : AH} {w0 w : World} {b : Builtin} {ps : List AV} {vs : List Value} {ts : List TypeId} {r : AV} {ty : TypeId} (k : Hp w0 E h w) (hp : All2 (AV.is E) ps vs)
    (ha : abuiltin P h b ps ts = some (r, h')) : ∃ v w', (∀ cs, (builtin b ts.toArray ty cs vs.toArray).run P w = .ok (.value v) w') ∧ Out w0 E h' r v w' := by
  unfold abuiltin at ha
  split at ha
  · cases hp with | cons h1 hp => cases hp with | cons h2 hp => cases hp with | nil =>
    obtain ⟨rv, w', hr, hE⟩ := aappend_sound (ty := ty) k h1 h2 ha
    exact ⟨rv, w', fun cs => by simp only [builtin, Sem.run_bind]; rw [show (#[_, _] : Array TypeId) = [_, _].toArray from rfl] at hr; rw [hr]; rfl, hE⟩
  · cases hp with | cons h1 hp => cases hp with | nil =>
    split at ha
    · rename_i e ht
      cases ha
      obtain ⟨p, hp, rfl⟩ := is_sl h1
      exact ⟨_, w, fun cs => by simp [builtin, Builtin.len_, run_underlying ht, goInt], Out.same k rfl⟩
    · cases ha
  · cases hp with | cons h1 hp => cases hp with | nil =>
    split at ha
    · rename_i e ht
      cases ha
      obtain rfl := is_lit h1
      exact ⟨_, w, fun cs => by simp [builtin, Builtin.len_, run_underlying ht, goInt], Out.same k rfl⟩
    · cases ha
  · cases hp with | cons h1 hp => cases hp with | nil =>
    split at ha
    · rename_i ht
      cases ha
      obtain rfl := is_lit h1
      exact ⟨_, w, fun cs => by simp [builtin, Builtin.len_, run_underlying ht, goInt], Out.same k rfl⟩
    · cases ha
  · cases hp with | cons h1 hp => cases hp with | nil =>
    split at ha
    · rename_i e1 e2 ht
      cases ha
      obtain rfl := is_lit h1
      exact ⟨_, w, fun cs => by simp [builtin, Builtin.len_, run_underlying ht, goInt], Out.same k rfl⟩
    · cases ha
  · cases hp with | cons h1 hp => cases hp with | cons h2 hp => cases hp with | nil =>
    cases ha
    obtain rfl := is_lit h1
    obtain rfl := is_lit h2
    exact ⟨_, w, fun cs => by simp only [builtin, Sem.run_bind, run_min_int2, Result.andThen_ok, Sem.run_pure], Out.same k rfl⟩
  · cases hp with | cons h1 hp => cases hp with | cons h2 hp => cases hp with | nil =>
    cases ha
    obtain rfl := is_lit h1
    obtain rfl := is_lit h2
    exact ⟨_, w, fun cs => by simp only [builtin, Sem.run_bind, run_max_int2, Result.andThen_ok, Sem.run_pure], Out.same k rfl⟩
  · cases hp with | cons h1 hp => cases hp with | cons h2 hp => cases hp with | nil =>
    split at ha
    · rename_i e ht
      split at ha
      · rename_i hi
        cases ha
        obtain ⟨i, hi⟩ := Option.isSome_iff_exists.1 hi
        obtain ⟨p, hp, rfl⟩ := is_sl h1
        obtain rfl := is_lit h2
        exact ⟨_, w, fun cs => by simp [builtin, Builtin.copy_, run_underlying ht, Builtin.lenOf, sizeOf, typeInfo, hi, Builtin.firstCells, storeCells, goInt], Out.same k rfl⟩
      · cases ha
    · cases ha
  · cases ha

theorem asPtrs_is {E : En} : ∀ {ps : List AV} {vs : List Value} {l : List (Nat × Nat)}, All2 (AV.is E) ps vs → asPtrs ps = some l → All2 (PtrIs E) l vs := by
  intro ps
  induction ps with
  | nil => intro vs l h k; cases h; cases k; exact .nil
  | cons x ps ih =>
    intro vs l h k
    cases h with
    | cons h1 h2 =>
      unfold asPtrs at k
      split at k
      · rename_i e; cases e
      · rename_i b o l' e
        cases e
        obtain ⟨m, hm, rfl⟩ := Option.map_eq_some_iff.1 k
        exact .cons h1 (ih h2 hm)
      · cases k

theorem map_is {E : En} {ρa : Operand → AV} {ρ : Operand → Value} (hρ : ∀ x, (ρa x).is E (ρ x)) (l : List Operand) : All2 (AV.is E) (l.map ρa) (l.map ρ) := by
  induction l with
  | nil => exact .nil
  | cons x l ih => exact .cons (hρ x) ih

theorem Out.new {w0 : World} {E : En} {h : AH} {w : World} (k : Hp w0 E h w) {t : TypeId} {cs : List AC} {vs : List Value} (cap : Nat) (hb : All2 (AC.is E) cs vs) {v : AV} {u : Value}
    (hv : v.is (E ++ [(w.heap.size, cap)]) u) : Out w0 E (h.push ⟨t, none, cs⟩) v u (w.alloc (.cells vs.toArray t)) := ⟨_, Le.snoc _ _, hv, k.push cap hb rfl⟩

theorem new_ptr {E : En} {h : AH} {w0 w : World} (k : Hp w0 E h w) (cap : Nat) : (AV.c (.ptr h.n 0)).is (E ++ [(w.heap.size, cap)]) (.pointer (some ⟨w.heap.size, 0, none⟩)) :=
  ⟨(w.heap.size, cap), by rw [← k.en]; exact get_snoc _ _, rfl⟩
theorem new_sl {E : En} {h : AH} {w0 w : World} (k : Hp w0 E h w) (n c : Nat) : (AV.c (.sl h.n n (some c))).is (E ++ [(w.heap.size, c)]) (.slice (some ⟨w.heap.size, 0, none⟩) n c) :=
  ⟨(w.heap.size, c), by rw [← k.en]; exact get_snoc _ _, rfl⟩

theorem OpK.alloc' {P : Program} {ρ : Operand → Value} {w : World} {K : Value → World → Prop} {d : Option Tmp} {tt t : TypeId} {pos : String} {af : Array Edge} {gd : Option (Nat × Bool)} {i : TypeInfo} {z : Value}
    (hi : P.info? t = some i) (hz : i.zero = some z) (h : K (.pointer (some ⟨w.heap.size, 0, none⟩)) (w.alloc (.cells z.cells t))) : OpK P ρ ⟨d, .alloc t, tt, pos, af, gd⟩ w K := OpK.allocArr hi hz h

theorem OpK.storeAny {P : Program} {ρ : Operand → Value} {w : World} {K : Value → World → Prop} {d : Option Tmp} {tt t te : TypeId} {pos : String} {af : Array Edge} {gd : Option (Nat × Bool)} {x y : Operand} {g o : Nat} {cur us : List Value} {v : Value}
    (hi : (P.info? t).map (·.size) = some us.length) (hx : ρ x = .pointer (some ⟨g, o, none⟩)) (hy : ρ y = v) (hv : v.cells = us.toArray) (h1 : ∀ u ∈ us, u.oneCell' = true) (hg : w.heap[g]? = some (.cells cur.toArray te (0, 0))) (hl : o + us.length ≤ cur.length)
    (h : K undef (w.setRow g (splice cur us o).toArray)) : OpK P ρ ⟨d, .store t x y, tt, pos, af, gd⟩ w K := by
  obtain ⟨i, hi', his⟩ := Option.map_eq_some_iff.1 hi
  have hr := run_storeCells_at (P := P) g o te us 0 cur.toArray w hg (by simpa using hl) h1
  simp only [Nat.add_zero] at hr
  simp only [OpK, execOp, hx, hy, Instr.storeAt, Instr.sureAddr, Sem.run_bind, Sem.run_pure, Result.andThen_ok, storeVar, sizeOf, typeInfo, run_program, hi', hv]
  simp [his, hr, After]
  unfold splice at h
  simpa using h

theorem aop_sound {P : Program} {E : En} {h h' : AH} {w0 w : World} {ρa : Operand → AV} {ρ : Operand → Value} (hρ : ∀ x, (ρa x).is E (ρ x)) (hc : ∀ v, ρ (.const v) = v) (k : Hp w0 E h w)
    {d : Option Tmp} {op : Op} {ty : TypeId} {pos : String} {af : Array Edge} {g : Option (Nat × Bool)} {r : AV} (ha : aop P h ρa op = some (r, h')) :
    OpK P ρ ⟨d, op, ty, pos, af, g⟩ w fun u w' => Out w0 E h' r u w' := by
  unfold aop at ha
  split at ha
  · rename_i x
    split at ha
    · rename_i b o hx
      cases ha
      obtain ⟨p, hp, hv⟩ := is_ptr (hx ▸ hρ x)
      exact OpK.nilCheck hv (Out.same k ⟨p, hp, rfl⟩)
    · cases ha
  · rename_i t
    split at ha
    · rename_i i hi
      split at ha
      · rename_i z hz
        cases ha
        refine OpK.alloc' hi hz ?_
        have := Out.new k (t := t) 0 (lits_is E z.cells.toList) (new_ptr k 0)
        rwa [Array.toArray_toList] at this
      · cases ha
    · cases ha
  · rename_i t x
    split at ha
    · rename_i ho
      cases ha
      obtain ⟨us, h1, h2, _⟩ := (hρ x).cells ho
      refine OpK.box ?_
      rw [h2]
      exact Out.new k 0 h1 (new_ptr k 0)
    · cases ha
  · rename_i t a x
    split at ha
    · rename_i b o hx
      split at ha
      · rename_i B hB
        split at ha
        · rename_i hcond
          simp only [Bool.and_eq_true, beq_iff_eq] at hcond
          obtain ⟨⟨ho, hsz⟩, hle⟩ := hcond
          have hle := Nat.le_of_ble_eq_true hle
          cases ha
          obtain ⟨us, h1, h2, h3⟩ := (hρ x).cells ho
          obtain ⟨p, hp, hv⟩ := is_ptr (hx ▸ hρ a)
          obtain ⟨q, hq, vs, tl, k1, k2, k3⟩ := k.rd b B hB
          rw [hp] at hq; cases hq
          have hl : (ρa x).cells.length = us.length := h1.len
          have hlc : B.cs.length = vs.length := k1.len
          rw [hl] at hsz hle
          rw [hlc] at hle
          refine OpK.storeAny hsz hv rfl h2 h3 k2 (by simp; omega) ?_
          have hsp : splice (vs ++ tl) us o = splice vs us o ++ tl := by
            unfold splice
            rw [List.take_append_of_le_length (by omega), List.drop_append_of_le_length (by omega)]
            simp only [List.append_assoc]
          refine ⟨E, Le.refl E, AV.un_is E, k.write hB hp rfl rfl rfl (by simp [World.setRow]) (fun i hi => setRow_other w p.1 i _ hi) ⟨splice vs us o, tl, k1.splice h1 o, ?_, ?_⟩⟩
          · rw [hsp]; exact setRow_heap w p.1 _ _ _ _ k2
          · have hsl : (splice vs us o).length = vs.length := splice_length hle
            simp only
            split
            · rename_i hr; rw [hr] at k3; exact k3
            · rename_i s hr; rw [hr] at k3; rw [List.length_append, hsl, ← List.length_append]; exact k3
        · cases ha
      · cases ha
    · cases ha
  · rename_i t ps
    split at ha
    · rename_i c0 pl hpl
      obtain ⟨cs, hf, he⟩ := Option.map_eq_some_iff.1 ha
      cases he
      obtain ⟨vs, h1, h2⟩ := places_built hpl (map_parts hρ ps.toList) hf
      exact OpK.build h2 (Out.same k ⟨vs, h1, rfl⟩)
    · cases ha
  · rename_i t n ps
    split at ha
    · rename_i e cs he
      cases ha
      obtain ⟨vs, h1, h2⟩ := abuildS_sound (qs := ps.map fun x => (x.1, ρ x.2)) he (by rw [Array.toList_map]; exact map_parts hρ ps.toList) w
      exact OpK.buildS h2 (Out.new k n h1 (new_sl k n n))
    · cases ha
  · rename_i f a b
    split at ha
    · rename_i l hal hbl
      cases ha
      refine OpK.makeFunc (Out.same k ⟨b.toList.map ρ, asPtrs_is (map_is hρ b.toList) hbl, ?_⟩)
      have : a = #[] := by apply Array.ext'; simpa using hal
      have hb : (List.map ρ b.toList).toArray = b.map ρ := by rw [← Array.toList_map, Array.toArray_toList]
      rw [this, hb]
      simp
    · cases ha
  · rename_i t x hi
    split at ha
    · rename_i e b n c k' m ht hx hhi
      split at ha
      · rename_i B i hB hi'
        split at ha
        · rename_i hcond
          simp only [Bool.and_eq_true] at hcond
          cases ha
          obtain ⟨p, hp, hv⟩ := is_sl (hx ▸ hρ x)
          have hm := Nat.le_of_ble_eq_true hcond.1
          have hn : n ≤ c.getD p.2 := by
            have h2 := hcond.2
            unfold aop.rowFit at h2
            cases c with
            | some c => exact Nat.le_of_ble_eq_true h2
            | none =>
              simp only at h2
              split at h2
              · rename_i s hr
                obtain ⟨q, hq, vs, tl, k1, k2, k3⟩ := k.rd b B hB
                rw [hp] at hq; cases hq
                rw [hr] at k3
                have h3 := Nat.le_of_ble_eq_true h2
                rw [show B.cs.length = vs.length from k1.len] at h3
                obtain ⟨k31, _, k33⟩ := k3
                rw [List.length_append] at k33
                have : n * s ≤ p.2 * s := by omega
                exact Nat.le_of_mul_le_mul_right this k31
              · cases h2
          have hm0 : (m : Int) ≤ ((c.getD p.2 : Nat) : Int) := by omega
          have hhv : ρ hi = .int k' (m : Int) := is_lit (hhi ▸ hρ hi)
          simp only [OpK, execOp, Option.map_some, Option.map_none, hv, hhv, Instr.sliceAt, Sem.run_bind, run_underlying ht, Result.andThen_ok]
          have he : P.underlying t = some (.slice (P.elem t)) := by rw [ht]; simp [Program.elem, ht]
          rw [run_slice_h w t (some ⟨p.1, 0, none⟩) n (c.getD p.2) he k' (m : Int) (by omega) hm0]
          have hel : P.elem t = e := by simp [Program.elem, ht]
          simp [sizeOf, typeInfo, hel, hi', After, sliced]
          refine Out.same k ⟨p, hp, ?_⟩
          split <;> simp [Addr.add_mid]
        · cases ha
      · cases ha
    · rename_i e k' ht hx hhi
      split at ha
      · rename_i hie
        cases ha
        obtain ⟨i, hi'⟩ := Option.isSome_iff_exists.1 hie
        have hhv : ρ hi = .int k' ((0 : Nat) : Int) := is_lit (hhi ▸ hρ hi)
        have hv := is_lit (hx ▸ hρ x)
        simp only [OpK, execOp, Option.map_some, Option.map_none, hv, hhv, Instr.sliceAt, Sem.run_bind, run_underlying ht, Result.andThen_ok]
        have he : P.underlying t = some (.slice (P.elem t)) := by rw [ht]; simp [Program.elem, ht]
        rw [run_slice_h w t none 0 0 he k' ((0 : Nat) : Int) (by omega) (by omega)]
        have hel : P.elem t = e := by simp [Program.elem, ht]
        simp [sizeOf, typeInfo, hel, hi', After, sliced]
        exact Out.same k rfl
      · cases ha
    · cases ha
  · rename_i t x
    split at ha
    · rename_i n e b ht hx
      split at ha
      · rename_i hcond
        simp only [Bool.and_eq_true] at hcond
        cases ha
        obtain ⟨i, hi'⟩ := Option.isSome_iff_exists.1 hcond.1
        obtain ⟨p, hp, hv⟩ := is_ptr (hx ▸ hρ x)
        have hn : ¬ n = 0 := by have := hcond.2; simp [Nat.blt_eq] at this; omega
        simp only [OpK, execOp, Option.map_none, hv, Instr.sliceAt, Sem.run_bind, run_underlying ht, Result.andThen_ok]
        simp [Instr.sureAddr, Instr.sliceBounds, sizeOf, typeInfo, hi', After, hn, Addr.add_mid]
        exact Out.same k ⟨p, hp, rfl⟩
      · cases ha
    · cases ha
  · rename_i t l c
    split at ha
    · rename_i e k1 n k2 m ht hl hcc
      split at ha
      · rename_i i hi
        split at ha
        · rename_i z hz
          split at ha
          · rename_i hcond
            simp only [Bool.and_eq_true] at hcond
            obtain ⟨⟨⟨⟨h1, h2⟩, h3⟩, h4⟩, h5⟩ := hcond
            have h1 := Nat.eq_of_beq_eq_true h1
            have h2 := Nat.eq_of_beq_eq_true h2
            have h4 := Nat.le_of_ble_eq_true h4
            have h5 := Nat.le_of_ble_eq_true h5
            cases ha
            subst h1
            have hr := run_make_row (P := P) t e i z ht hi hz h2 (one_cells h3) k1 k2 n h4 (by omega) w
            have hlv : ρ l = .int k1 (n : Int) := is_lit (hl ▸ hρ l)
            have hcv : ρ c = .int k2 (n : Int) := is_lit (hcc ▸ hρ c)
            simp only [OpK, execOp, hlv, hcv, Sem.run_bind, hr, Result.andThen_ok, Sem.run_pure, After]
            have := Out.new k (t := e) n (lits_is E (madeCells #[z] n).toList) (new_sl k n n)
            rwa [Array.toArray_toList] at this
          · cases ha
        · cases ha
      · cases ha
    · cases ha
  · rename_i c
    split at ha
    · rename_i b hb
      obtain ⟨callee, args, ats⟩ := c
      simp only at hb
      subst hb
      obtain ⟨v, w', hr, ho⟩ := abuiltin_sound (ty := ty) k (map_is hρ args.toList) ha
      refine OpK.bi (v := v) (w' := w') (fun cs => ?_) ho
      have := hr cs
      rw [← Array.toList_map, Array.toArray_toList, Array.toArray_toList] at this
      exact this
    · cases ha
  · obtain ⟨v, hv, he⟩ := Option.map_eq_some_iff.1 ha
    cases he
    refine After.mono (apure_OpK hρ hc k.rd hv) fun u w' ⟨h1, h2⟩ => ?_
    subst h2
    exact Out.same k h1

end Go.Kx

/- Code over plain data: regions (those that draw too), branches, loops, calls; that the machine does the same. -/
namespace Go.Kx
open Go.RowKit
set_option linter.unusedSimpArgs false
set_option linter.unusedVariables false

abbrev Call' := FuncId → List AV → AH → Option (AV × AH)

def astep (P : Program) (call : Call') (h : AH) (σ : AF) (op : Op) : Option (AV × AH) :=
  match asFun op with
  | some (f, args) => call f (args.map (aev σ)) h
  | none => aop P h (aev σ) op
where
  asFun : Op → Option (FuncId × List Operand)
    | .call c => match c.callee with
      | .value (.func f) => some (f, c.args.toList)
      | _ => none
    | _ => none

def isB (b : Bool) : Value → Bool
  | .bool x => x == b
  | _ => false
def awanted (ops : Array Oper) (σ : AF) (o : Oper) : Option Bool :=
  match o.guard with
  | none => some true
  | some (j, b) => match (ops[j]?).bind (·.dst) with
    | some d => match σ.get d with
      | .c (.lit v) => some (isB b v)
      | _ => none
    | none => some false

def AF.upd (σ : AF) (d : Option Nat) (v : AV) : AF := match d with | some d => σ.set d v | none => σ

def aregion (P : Program) (call : Call') (ops : Array Oper) : List Oper → AF → AH → Option (AF × AH)
  | [], σ, h => some (σ, h)
  | o :: l, σ, h => match awanted ops σ o with
    | some true => match astep P call h σ o.op with
      | some (v, h') => aregion P call ops l (σ.upd o.dst v) h'
      | none => none
    | some false => aregion P call ops l (σ.upd o.dst AV.un) h
    | none => none

def litEq : Value → Value → Bool
  | .int k a, .int k' b => decide (k = k') && a == b
  | .bool a, .bool b => a == b
  | .slice none 0 0, .slice none 0 0 => true
  | .pointer none, .pointer none => true
  | .map none, .map none => true
  | .string a, .string b => decide (a.data.toList = b.data.toList)
  | _, _ => false
def acEq : AC → AC → Bool
  | .lit a, .lit b => litEq a b
  | .ptr a b, .ptr c d => Nat.beq a c && Nat.beq b d
  | .sl a b c, .sl a' b' c' => Nat.beq a a' && Nat.beq b b' && decide (c = c')
  | _, _ => false
def acsEq : List AC → List AC → Bool
  | [], [] => true
  | a :: l, b :: m => acEq a b && acsEq l m
  | _, _ => false
def abEq (a b : AB) : Bool := Nat.beq a.e b.e && decide (a.row = b.row) && acsEq a.cs b.cs

theorem litEq_eq {a b : Value} (h : litEq a b = true) : a = b := by
  unfold litEq at h
  split at h
  · simp only [Bool.and_eq_true, decide_eq_true_eq, beq_iff_eq] at h; rw [h.1, h.2]
  · simp only [beq_iff_eq] at h; rw [h]
  · rfl
  · rfl
  · rfl
  · rename_i a b
    simp only [decide_eq_true_eq] at h
    obtain ⟨a⟩ := a
    obtain ⟨b⟩ := b
    congr 2
    exact Array.ext' h
  · cases h
theorem acEq_eq {a b : AC} (h : acEq a b = true) : a = b := by
  unfold acEq at h
  split at h
  · rw [litEq_eq h]
  · simp only [Bool.and_eq_true] at h; rw [Nat.eq_of_beq_eq_true h.1, Nat.eq_of_beq_eq_true h.2]
  · simp only [Bool.and_eq_true, decide_eq_true_eq] at h; rw [Nat.eq_of_beq_eq_true h.1.1, Nat.eq_of_beq_eq_true h.1.2, h.2]
  · cases h
theorem acsEq_eq : ∀ {l m : List AC}, acsEq l m = true → l = m
  | [], [], _ => rfl
  | a :: l, b :: m, h => by
    simp only [acsEq, Bool.and_eq_true] at h
    rw [acEq_eq h.1, acsEq_eq h.2]
  | [], _ :: _, h => by simp [acsEq] at h
  | _ :: _, [], h => by simp [acsEq] at h
theorem abEq_eq {a b : AB} (h : abEq a b = true) : a = b := by
  obtain ⟨e, r, cs⟩ := a
  obtain ⟨e', r', cs'⟩ := b
  simp only [abEq, Bool.and_eq_true, decide_eq_true_eq] at h
  obtain ⟨⟨h1, h2⟩, h3⟩ := h
  rw [Nat.eq_of_beq_eq_true h1, h2, acsEq_eq h3]

/-- The blocks that are kept for early reading. -/
def kept (l : List (Nat × AB)) (i : Nat) : Option AB := (l.find? fun x => Nat.beq x.1 i).map (·.2)
def stillB (l : List (Nat × AB)) (h : AH) : Bool := l.all fun x => match h.get x.1 with | some b => abEq b x.2 | none => false

/-- The next place that may be taken early: with what it yields. -/
def early (P : Program) (look : Nat → Option AB) (ops : Array Oper) (listed : Array Bool) (σ : AF) : List Nat → Option (Nat × Oper × AV)
  | [] => none
  | i :: rs => match ops[i]? with
    | some o => if Region.free .any ops listed i then
        match awanted ops σ o with
        | some true => match apure P look (aev σ) o.op with
          | some v => some (i, o, v)
          | none => early P look ops listed σ rs
        | some false => some (i, o, AV.un)
        | none => early P look ops listed σ rs
      else early P look ops listed σ rs
    | none => none

/-- The blocks that are read early. -/
def areads (P : Program) (h : AH) (ops : Array Oper) : Nat → Array Bool → AF → List (Nat × AB)
  | 0, _, _ => []
  | n + 1, listed, σ => match early P h.get ops listed σ (Region.ready .any ops listed) with
    | some (i, o, v) =>
      let rest := areads P h ops n (listed.setIfInBounds i true) (σ.upd o.dst v)
      match o.op with
      | .load _ x => match aev σ x with
        | .c (.ptr b _) => match h.get b with
          | some B => (b, B) :: rest
          | none => rest
        | _ => rest
      | _ => rest
    | none => []

def adraw (P : Program) (call : Call') (R : List (Nat × AB)) (ops : Array Oper) : Nat → Array Bool → AF → AH → Option (List (Nat × Bool) × AF × AH)
  | 0, listed, σ, h => some ([], σ, h)
  | n + 1, listed, σ, h =>
    match Region.ready .any ops listed with
    | [] => some ([], σ, h)
    | rs =>
      match early P (kept R) ops listed σ rs with
      | some (i, o, v) => (adraw P call R ops n (listed.setIfInBounds i true) (σ.upd o.dst v) h).map fun x => ((i, true) :: x.1, x.2)
      | none =>
        match rs with
        | [i] => match ops[i]? with
          | some o => match awanted ops σ o with
            | some true => match astep P call h σ o.op with
              | some (v, h') => if stillB R h' then (adraw P call R ops n (listed.setIfInBounds i true) (σ.upd o.dst v) h').map fun x => ((i, false) :: x.1, x.2) else none
              | none => none
            | _ => none
          | none => none
        | _ => none

def adrawn (P : Program) (call : Call') (ops : Array Oper) (σ : AF) (h : AH) : Option (AF × AH) :=
  let l0 := Array.replicate ops.size false
  let R := areads P h ops ops.size l0 σ
  match adraw P call R ops ops.size l0 σ h with
  | some (l, σ', h') => if Region.noSelect ops && schedB ops l0 l && Nat.ble l.length ops.size && stillB R h then some (σ', h') else none
  | none => none

def aiter (step : AF → AH → Option (Exit × AF × AH)) : Nat → AF → AH → Option (Exit × AF × AH)
  | 0, _, _ => none
  | n + 1, σ, h => match step σ h with
    | some (.normal, σ', h') => aiter step n σ' h'
    | r => r

def acode (P : Program) (call : Call') (fuel : Nat) : Code → AF → AH → Option (Exit × AF × AH)
  | .skip, σ, h => some (.normal, σ, h)
  | .ret, σ, h => some (.ret, σ, h)
  | .exit id, σ, h => some (.exit id, σ, h)
  | .seq a b, σ, h => match acode P call fuel a σ h with
    | some (.normal, σ', h') => acode P call fuel b σ' h'
    | r => r
  | .cond c a b, σ, h => match aev σ c with
    | .c (.lit (.bool true)) => acode P call fuel a σ h
    | .c (.lit (.bool false)) => acode P call fuel b σ h
    | _ => none
  | .block id c, σ, h => match acode P call fuel c σ h with
    | some (.exit i, σ', h') => if Nat.beq i id then some (.normal, σ', h') else some (.exit i, σ', h')
    | r => r
  | .loop c, σ, h => aiter (fun σ h => acode P call fuel c σ h) fuel σ h
  | .region _ ops false, σ, h => (aregion P call ops ops.toList σ h).map fun x => (.normal, x.1, x.2)
  | .region _ ops true, σ, h => (adrawn P call ops σ h).map fun x => (.normal, x.1, x.2)
  | _, _, _ => none

def ares (P : Program) (h : AH) (fn : Func) (σ : AF) : Option AV :=
  match fn.results.toList with
  | [] => some (.c (.lit (.tuple #[])))
  | [.tmp t] => some (σ.get t)
  | [.cell t ty] => apure P h.get (aev σ) (.load ty (.tmp t))
  | _ => none

def acall (P : Program) : Nat → Call'
  | 0 => fun _ _ _ => none
  | n + 1 => fun f args h =>
    match P.funcs[f]? with
    | some fn => match fn.body with
      | some c =>
        if fits fn.ntmps c && Nat.ble args.length fn.ntmps && !(fn.name == "runtime.NumGoroutine") then
          match acode P (acall P n) 300 c args h with
          | some (.normal, σ, h') => (ares P h' fn σ).map fun v => (v, h')
          | some (.ret, σ, h') => (ares P h' fn σ).map fun v => (v, h')
          | _ => none
        else none
      | none => none
    | none => none

end Go.Kx

/- That the machine does what the running over plain data says. -/
namespace Go.Kx
open Go.RowKit
set_option linter.unusedSimpArgs false
set_option linter.unusedVariables false

/-- What is asked of the calls. -/
def CallOk (P : Program) (call : Call') : Prop := ∀ (f : FuncId) (args : List AV) (h h' : AH) (r : AV), call f args h = some (r, h') →
  Callable P f ∧ ∀ (w0 w : World) (E : En) (vs : List Value), Hp w0 E h w → All2 (AV.is E) args vs → Calls P f vs.toArray w fun e w' => ∃ v, e = .returned v ∧ Out w0 E h' r v w'

theorem asFun_eq {op : Op} {f : FuncId} {args : List Operand} (h : astep.asFun op = some (f, args)) : ∃ cargs ats, op = .call ⟨.value (.func f), cargs, ats⟩ ∧ args = cargs.toList := by
  cases op with
  | call c =>
    obtain ⟨callee, cargs, ats⟩ := c
    cases callee with
    | value q =>
      cases q with
      | func g => simp only [astep.asFun, Option.some.injEq, Prod.mk.injEq] at h; obtain ⟨rfl, rfl⟩ := h; exact ⟨cargs, ats, rfl, rfl⟩
      | _ => simp [astep.asFun] at h
    | _ => simp [astep.asFun] at h
  | _ => simp [astep.asFun] at h

theorem astep_sound {P : Program} {call : Call'} (hcall : CallOk P call) {E : En} {h h' : AH} {w0 w : World} {σ : AF} {τ : Fm} (hf : FrIs E σ τ) (k : Hp w0 E h w) {o : Oper} {r : AV} (ha : astep P call h σ o.op = some (r, h')) :
    OpK P (ev τ) o w fun u w' => Out w0 E h' r u w' := by
  obtain ⟨d, op, ty, pos, af, g⟩ := o
  unfold astep at ha
  split at ha
  · rename_i f args hfn
    obtain ⟨hcl, hk⟩ := hcall f _ h h' r ha
    obtain ⟨cargs, ats, rfl, rfl⟩ := asFun_eq hfn
    refine OpK.call hcl ?_ rfl
    have := hk w0 w E (cargs.toList.map (ev τ)) k (map_is (fun x => aev_is hf x) _)
    have he : cargs.map (ev τ) = (cargs.toList.map (ev τ)).toArray := by apply Array.ext'; simp
    rw [he]
    exact this
  · exact aop_sound (fun x => aev_is hf x) (fun _ => rfl) k ha

theorem awanted_sound {E : En} {σ : AF} {τ : Fm} (hf : FrIs E σ τ) {ops : Array Oper} {o : Oper} {b : Bool} (h : awanted ops σ o = some b) : wantedB o ops τ = b := by
  unfold awanted at h
  unfold wantedB
  split at h
  · rename_i hg; rw [hg]; cases h; rfl
  · rename_i j c hg
    rw [hg]
    simp only
    split at h
    · rename_i d hd
      split at h
      · rename_i v hv
        cases h
        have := is_lit (hv ▸ hf d)
        unfold yv
        rw [hd]
        simp only [this]
        unfold isB
        cases v <;> simp
      · cases h
    · rename_i hd
      cases h
      unfold yv
      rw [hd]
      simp

theorem upd_is {E : En} {σ : AF} {τ : Fm} (k : FrIs E σ τ) {v : AV} {u : Value} (hv : v.is E u) (d : Option Nat) : FrIs E (σ.upd d v) (upd τ d u) := k.upd hv d

theorem aregion_sound {P : Program} {call : Call'} (hcall : CallOk P call) {ops : Array Oper} : ∀ (l : List Oper) {E : En} {h h' : AH} {w0 w : World} {σ σ' : AF} {τ : Fm}, FrIs E σ τ → Hp w0 E h w → aregion P call ops l σ h = some (σ', h') →
    RW P ops l τ w fun τ' w' => ∃ E', Le E E' ∧ FrIs E' σ' τ' ∧ Hp w0 E' h' w' := by
  intro l
  induction l with
  | nil => intro E h h' w0 w σ σ' τ hf k ha; cases ha; exact ⟨E, Le.refl E, hf, k⟩
  | cons o l ih =>
    intro E h h' w0 w σ σ' τ hf k ha
    unfold aregion at ha
    unfold RW
    split at ha
    · rename_i hw
      rw [awanted_sound hf hw, if_pos rfl]
      split at ha
      · rename_i v h1 hs
        refine After.mono (astep_sound hcall hf k hs) fun u w' ⟨E', hE, hv, k'⟩ => ?_
        refine (ih (upd_is (hf.le hE) hv o.dst) k' ha).mono l fun τ' w'' ⟨E'', hE', hf', k''⟩ => ⟨E'', hE.trans hE', hf', k''⟩
      · cases ha
    · rename_i hw
      rw [awanted_sound hf hw, if_neg (by simp)]
      exact ih (upd_is hf (AV.un_is E) o.dst) k ha
    · cases ha

theorem early_sound {P : Program} {look : Nat → Option AB} {ops : Array Oper} {listed : Array Bool} {σ : AF} : ∀ {rs : List Nat} {i : Nat} {o : Oper} {v : AV}, early P look ops listed σ rs = some (i, o, v) →
    ops[i]? = some o ∧ ((awanted ops σ o = some true ∧ apure P look (aev σ) o.op = some v) ∨ (awanted ops σ o = some false ∧ v = AV.un)) := by
  intro rs
  induction rs with
  | nil => intro i o v h; cases h
  | cons j rs ih =>
    intro i o v h
    unfold early at h
    split at h
    · rename_i o' ho
      split at h
      · split at h
        · rename_i hw
          split at h
          · rename_i v' hv
            cases h
            exact ⟨ho, .inl ⟨hw, hv⟩⟩
          · exact ih h
        · rename_i hw
          cases h
          exact ⟨ho, .inr ⟨hw, rfl⟩⟩
        · exact ih h
      · exact ih h
    · cases h

theorem rd_kept {w0 : World} {E E' : En} {h0 h : AH} {w1 w : World} {R : List (Nat × AB)} (k0 : Rd E (kept R) w1) (hE : Le E E') (k : Hp w0 E' h w) (hs : stillB R h = true) : Rd E (kept R) w := by
  intro i b hb
  obtain ⟨p, hp, vs0, tl0, h1, _, _⟩ := k0 i b hb
  unfold kept at hb
  obtain ⟨x, hx, rfl⟩ := Option.map_eq_some_iff.1 hb
  have hm := List.mem_of_find?_eq_some hx
  have hxi : x.1 = i := Nat.eq_of_beq_eq_true (by have := List.find?_some hx; simpa using this)
  have := List.all_eq_true.1 hs x hm
  split at this
  · rename_i b' hb'
    have := abEq_eq this
    subst this
    rw [hxi] at hb'
    obtain ⟨q, hq, vs, tl, k1, k2, k3⟩ := k.rd i _ hb'
    rw [hE i p hp] at hq
    cases hq
    have hv : vs = vs0 := all2_fun (R := AC.is E') (fun _ _ _ h k => AC.is_fun h k) k1 (h1.imp fun _ _ h => AC.is.le hE h)
    subst hv
    exact ⟨p, hp, vs, tl, h1, k2, k3⟩
  · cases this

theorem rd_le {E E' : En} {look : Nat → Option AB} {w : World} (k : Rd E look w) (hE : Le E E') : Rd E' look w := by
  intro i b hb
  obtain ⟨p, hp, hB⟩ := k i b hb
  exact ⟨p, hE _ _ hp, hB.keep hE rfl⟩

theorem adraw_sound {P : Program} {call : Call'} (hcall : CallOk P call) {R : List (Nat × AB)} {ops : Array Oper} {E0 : En} : ∀ (n : Nat) {listed : Array Bool} {E : En} {h h' : AH} {w0 w : World} {σ σ' : AF} {τ : Fm} {l : List (Nat × Bool)}, Le E0 E → Rd E0 (kept R) w →
    FrIs E σ τ → Hp w0 E h w → adraw P call R ops n listed σ h = some (l, σ', h') → HW P ops (Rd E0 (kept R)) l τ w fun τ' w' => ∃ E', Le E E' ∧ FrIs E' σ' τ' ∧ Hp w0 E' h' w' := by
  intro n
  induction n with
  | zero => intro listed E h h' w0 w σ σ' τ l hE hR hf k ha; cases ha; exact ⟨E, Le.refl E, hf, k⟩
  | succ n ih =>
    intro listed E h h' w0 w σ σ' τ l hE hR hf k ha
    unfold adraw at ha
    split at ha
    · cases ha; exact ⟨E, Le.refl E, hf, k⟩
    · rename_i rs _
      split at ha
      · rename_i i o v he
        obtain ⟨ho, hwp⟩ := early_sound he
        obtain ⟨x, hx, hxe⟩ := Option.map_eq_some_iff.1 ha
        obtain ⟨l', σ1, h1⟩ := x
        simp only [Prod.mk.injEq] at hxe
        obtain ⟨rfl, rfl, rfl⟩ := hxe
        rcases hwp with ⟨hw, hp⟩ | ⟨hw, rfl⟩
        · obtain ⟨u, hu, hy⟩ := apure_yi (fun x => aev_is hf x) (fun _ => rfl) (rd_le hR hE) hp
          refine HW.early ho (awanted_sound hf hw) (v := u) (fun w' hw' => hy w' (rd_le hw' hE)) ?_
          exact ih hE hR (upd_is hf hu o.dst) k hx
        · refine HW.none_ ho (awanted_sound hf hw) ?_
          exact ih hE hR (upd_is hf (AV.un_is E) o.dst) k hx
      · split at ha
        · rename_i i
          split at ha
          · rename_i o ho
            split at ha
            · rename_i hw
              split at ha
              · rename_i v h1 hs
                split at ha
                · rename_i hst
                  obtain ⟨x, hx, hxe⟩ := Option.map_eq_some_iff.1 ha
                  obtain ⟨l', σ1, h2⟩ := x
                  simp only [Prod.mk.injEq] at hxe
                  obtain ⟨rfl, rfl, rfl⟩ := hxe
                  refine HW.next ho (awanted_sound hf hw) (After.mono (astep_sound hcall hf k hs) fun u w' ⟨E', hE', hv, k'⟩ => ?_)
                  have hR' := rd_kept (h0 := h) hR (hE.trans hE') k' hst
                  refine ⟨hR', ?_⟩
                  have := ih (hE.trans hE') hR' (upd_is (hf.le hE') hv o.dst) k' hx
                  exact HW.mono this fun τ' w'' ⟨E'', hE'', hf', k''⟩ => ⟨E'', hE'.trans hE'', hf', k''⟩
                · cases ha
              · cases ha
            · cases ha
          · cases ha
        · cases ha

theorem rd_first {E : En} {h : AH} {w0 w : World} {R : List (Nat × AB)} (k : Hp w0 E h w) (hs : stillB R h = true) : Rd E (kept R) w := by
  intro i b hb
  unfold kept at hb
  obtain ⟨x, hx, rfl⟩ := Option.map_eq_some_iff.1 hb
  have hm := List.mem_of_find?_eq_some hx
  have hxi : x.1 = i := Nat.eq_of_beq_eq_true (by have := List.find?_some hx; simpa using this)
  have := List.all_eq_true.1 hs x hm
  split at this
  · rename_i b' hb'
    have := abEq_eq this
    subst this
    rw [hxi] at hb'
    exact k.rd i _ hb'
  · cases this

theorem aiter_sound {P : Program} {n : Nat} {c : Code} {step : AF → AH → Option (Exit × AF × AH)} {w0 : World} (hstep : ∀ {E : En} {h h' : AH} {w : World} {σ σ' : AF} {τ : Fm} {e : Exit}, FrIs E σ τ → Hp w0 E h w → step σ h = some (e, σ', h') →
      CW P n c τ w fun e' τ' w' => e' = e ∧ ∃ E', Le E E' ∧ FrIs E' σ' τ' ∧ Hp w0 E' h' w') {E0 : En} {fuel : Nat} {h h' : AH} {w : World} {σ σ' : AF} {τ : Fm} {e : Exit} (hf : FrIs E0 σ τ) (k : Hp w0 E0 h w) (ha : aiter step fuel σ h = some (e, σ', h')) :
    CW P n (.loop c) τ w fun e' τ' w' => e' = e ∧ ∃ E', Le E0 E' ∧ FrIs E' σ' τ' ∧ Hp w0 E' h' w' := by
  refine CW.loop (fun m τ w => ∃ E σ h, Le E0 E ∧ FrIs E σ τ ∧ Hp w0 E h w ∧ aiter step m σ h = some (e, σ', h')) fuel ⟨E0, σ, h, Le.refl E0, hf, k, ha⟩ fun m τ w ⟨E, σ, h, hE, hf, k, ha⟩ => ?_
  cases m with
  | zero => cases ha
  | succ m =>
    unfold aiter at ha
    split at ha
    · rename_i σ1 h1 hs
      refine CW.mono (hstep hf k hs) fun e' τ' w' ⟨he, E', hE', hf', k'⟩ => ?_
      subst he
      exact ⟨m, Nat.lt_succ_self m, E', σ1, h1, hE.trans hE', hf', k', ha⟩
    · rename_i r hr
      refine CW.mono (hstep hf k ha) fun e' τ' w' ⟨he, E', hE', hf', k'⟩ => ?_
      subst he
      cases e' with
      | normal => exact absurd ha (hr _ _)
      | _ => exact ⟨rfl, E', hE.trans hE', hf', k'⟩

theorem acode_sound {P : Program} {call : Call'} (hm : P.follows .mixedOrders = true) (hcall : CallOk P call) {fuel n : Nat} {w0 : World} : ∀ (c : Code) {E : En} {h h' : AH} {w : World} {σ σ' : AF} {τ : Fm} {e : Exit}, FrIs E σ τ → Hp w0 E h w →
    acode P call fuel c σ h = some (e, σ', h') → CW P n c τ w fun e' τ' w' => e' = e ∧ ∃ E', Le E E' ∧ FrIs E' σ' τ' ∧ Hp w0 E' h' w' := by
  intro c
  induction c with
  | skip => intro E h h' w σ σ' τ e hf k ha; simp only [acode] at ha; cases ha; exact CW.skip ⟨rfl, E, Le.refl E, hf, k⟩
  | ret => intro E h h' w σ σ' τ e hf k ha; simp only [acode] at ha; cases ha; exact CW.ret ⟨rfl, E, Le.refl E, hf, k⟩
  | exit id => intro E h h' w σ σ' τ e hf k ha; simp only [acode] at ha; cases ha; exact CW.exit ⟨rfl, E, Le.refl E, hf, k⟩
  | seq a b iha ihb =>
    intro E h h' w σ σ' τ e hf k ha
    simp only [acode] at ha
    split at ha
    · rename_i σ1 h1 hs
      refine CW.seq (CW.mono (iha hf k hs) fun e' τ' w' ⟨he, E', hE', hf', k'⟩ => ?_)
      subst he
      exact CW.mono (ihb hf' k' ha) fun e'' τ'' w'' ⟨he, E'', hE'', hf'', k''⟩ => ⟨he, E'', hE'.trans hE'', hf'', k''⟩
    · rename_i r hr
      refine CW.seq (CW.mono (iha hf k ha) fun e' τ' w' ⟨he, hrest⟩ => ?_)
      subst he
      cases e' with
      | normal => exact absurd ha (hr _ _)
      | _ => exact ⟨rfl, hrest⟩
  | cond x a b iha ihb =>
    intro E h h' w σ σ' τ e hf k ha
    simp only [acode] at ha
    split at ha
    · rename_i hx
      exact CW.cond (t := true) (is_lit (hx ▸ aev_is hf x)) (iha hf k ha)
    · rename_i hx
      exact CW.cond (t := false) (is_lit (hx ▸ aev_is hf x)) (ihb hf k ha)
    · cases ha
  | block id a iha =>
    intro E h h' w σ σ' τ e hf k ha
    simp only [acode] at ha
    split at ha
    · rename_i i σ1 h1 hs
      refine CW.block (CW.mono (iha hf k hs) fun e' τ' w' ⟨he, hrest⟩ => ?_)
      subst he
      simp only [InBlock]
      split at ha
      · rename_i hi
        cases ha
        rw [if_pos (Nat.eq_of_beq_eq_true hi)]
        exact ⟨rfl, hrest⟩
      · rename_i hi
        cases ha
        rw [if_neg (fun h => hi (by rw [h]; simp))]
        exact ⟨rfl, hrest⟩
    · rename_i r hr
      refine CW.block (CW.mono (iha hf k ha) fun e' τ' w' ⟨he, hrest⟩ => ?_)
      subst he
      cases e' with
      | exit i => exact absurd ha (hr _ _ _)
      | _ => exact ⟨rfl, hrest⟩
  | loop a iha =>
    intro E h h' w σ σ' τ e hf k ha
    simp only [acode] at ha
    exact aiter_sound (fun hf k hs => iha hf k hs) hf k ha
  | region id ops b =>
    intro E h h' w σ σ' τ e hf k ha
    cases b with
    | false =>
      simp only [acode] at ha
      obtain ⟨x, hx, he⟩ := Option.map_eq_some_iff.1 ha
      obtain ⟨σ1, h1⟩ := x
      simp only [Prod.mk.injEq] at he
      obtain ⟨rfl, rfl, rfl⟩ := he
      exact CW.region (RW.mono _ (aregion_sound hcall ops.toList hf k hx) fun τ' w' h => ⟨rfl, h⟩)
    | true =>
      simp only [acode] at ha
      obtain ⟨x, hx, he⟩ := Option.map_eq_some_iff.1 ha
      obtain ⟨σ1, h1⟩ := x
      simp only [Prod.mk.injEq] at he
      obtain ⟨rfl, rfl, rfl⟩ := he
      unfold adrawn at hx
      simp only at hx
      split at hx
      · rename_i l σ2 h2 hd
        split at hx
        · rename_i hc
          cases hx
          simp only [Bool.and_eq_true] at hc
          have hR := rd_first k hc.2
          refine CW.regionD hm (Rd E (kept (areads P h ops ops.size (Array.replicate ops.size false) σ))) l (by simp only [Bool.and_eq_true]; exact ⟨⟨hc.1.1.1, hc.1.1.2⟩, hc.1.2⟩) (rd_first k.drew hc.2) ?_
          exact HW.mono (adraw_sound hcall ops.size (Le.refl E) (rd_first k.drew hc.2) hf k.drew hd) fun τ' w' h => ⟨rfl, h⟩
        · cases hx
      · cases hx
  | _ => intro E h h' w σ σ' τ e hf k ha; simp only [acode] at ha; cases ha


theorem Calls.of_CW2 {P : Program} {f : FuncId} {fn : Func} {c : Code} {args : Array Value} {w : World} {R : Value → World → Prop}
    (hf : P.funcs[f]? = some fn) (hb : fn.body = some c) (hs : fits fn.ntmps c = true) (hn : args.size ≤ fn.ntmps)
    (h : CW P fn.ntmps c (frame0 args) w fun e σ w' => (e = .normal ∨ e = .ret) ∧ ∃ v, (∀ a, Fr fn.ntmps a σ → (results fn a.tmps).run P w' = .ok v w') ∧ R v w') : Calls P f args w fun e w' => ∃ v, e = .returned v ∧ R v w' := by
  refine calls_of_wp hf hb (wp_mono (h hs _ ⟨by simp; omega, rfl, fun t => ?_⟩) fun e a w' ⟨σ', hfr, hQ⟩ => ?_)
  · simp only [frame0, Array.getD_eq_getD_getElem?]
    by_cases ht : t < args.size
    · rw [Array.getElem?_append_left ht]
    · rw [Array.getElem?_append_right (by omega), Array.getElem?_eq_none (xs := args) (by omega)]
      by_cases hr : t - args.size < fn.ntmps - args.size
      · rw [Array.getElem?_replicate, if_pos hr]; rfl
      · rw [Array.getElem?_replicate, if_neg hr]
  · obtain ⟨he, v, hv, hR⟩ := hQ
    rcases he with rfl | rfl
    · exact ⟨hfr.defers, v, hv a hfr, v, rfl, hR⟩
    · exact ⟨hfr.defers, v, hv a hfr, v, rfl, hR⟩

theorem ares_sound {P : Program} {E : En} {h : AH} {w0 w : World} {fn : Func} {σ : AF} {τ : Fm} {r : AV} (hf : FrIs E σ τ) (k : Hp w0 E h w) (hr : ares P h fn σ = some r) :
    ∃ v, (∀ n a, Fr n a τ → (results fn a.tmps).run P w = .ok v w) ∧ r.is E v := by
  obtain ⟨rs, hrs⟩ : ∃ l : List ResultVar, fn.results = l.toArray := ⟨fn.results.toList, by simp⟩
  unfold ares at hr
  rw [hrs] at hr
  simp only at hr
  split at hr
  · cases hr
    exact ⟨_, fun n a ha => by simp [results, hrs], rfl⟩
  · cases hr
    rename_i t
    exact ⟨τ t, fun n a ha => by simp [results, hrs, ← ha.at_], hf t⟩
  · rename_i t ty
    obtain ⟨u, hu, hrun⟩ := apure_run (o := ⟨none, .load ty (.tmp t), 0, "", #[], none⟩) (fun x => aev_is hf x) (fun _ => rfl) k.rd hr
    refine ⟨u, fun n a ha => ?_, hu⟩
    have hx : ∃ b o, σ.get t = .c (.ptr b o) := by
      simp only [apure, aev] at hr
      split at hr
      · rename_i b o hx; exact ⟨b, o, hx⟩
      · cases hr
    obtain ⟨b, o, hx⟩ := hx
    obtain ⟨p, hp, hv⟩ := is_ptr (hx ▸ hf t)
    have hat := ha.at_ t
    simp only [execOp, ev_tmp, hv, Instr.loadAt, Instr.sureAddr, Sem.run_bind, Sem.run_pure, Result.andThen_ok] at hrun
    have hl : (loadVar ty ⟨p.1, o, none⟩).run P w = .ok u w := by
      generalize (loadVar ty ⟨p.1, o, none⟩).run P w = q at hrun
      cases q with
      | ok z w' => simp only [Result.andThen_ok] at hrun; cases hrun; rfl
      | halt z w' => cases hrun
    rw [Array.getD_eq_getD_getElem?] at hat
    simp [results, hrs, hat, hv, asAddr, hl]
  · cases hr

theorem acall_sound {P : Program} (hm : P.follows .mixedOrders = true) : ∀ n, CallOk P (acall P n)
  | 0 => fun f args h h' r ha => by cases ha
  | n + 1 => by
    have ih := acall_sound hm n
    intro f args h h' r ha
    simp only [acall] at ha
    split at ha
    · rename_i fn hfn
      split at ha
      · rename_i c hc
        split at ha
        · rename_i hcond
          simp only [Bool.and_eq_true, Bool.not_eq_true'] at hcond
          obtain ⟨⟨hfit, hlen⟩, hname⟩ := hcond
          have hlen := Nat.le_of_ble_eq_true hlen
          refine ⟨⟨fn, hfn, hname, by rw [hc]; rfl⟩, fun w0 w E vs k hvs => ?_⟩
          have hf : FrIs E args (frame0 vs.toArray) := by
            intro t
            unfold AF.get frame0
            by_cases ht : t < args.length
            · obtain ⟨x, hx⟩ : ∃ x, args[t]? = some x := ⟨args[t], List.getElem?_eq_getElem ht⟩
              obtain ⟨v, hv, hr⟩ := hvs.get hx
              simp [List.getD_eq_getElem?_getD, hx, Array.getD_eq_getD_getElem?, hv]
              exact hr
            · have hl := hvs.len
              simp [List.getD_eq_getElem?_getD, List.getElem?_eq_none (Nat.le_of_not_lt ht), Array.getD_eq_getD_getElem?, List.getElem?_eq_none (show vs.length ≤ t by omega)]
              exact AV.un_is E
          have hsz : vs.toArray.size ≤ fn.ntmps := by have := hvs.len; simp; omega
          have fin : ∀ {e : Exit} {σ : AF} {h1 : AH}, acode P (acall P n) 300 c args h = some (e, σ, h1) → (e = .normal ∨ e = .ret) → (ares P h1 fn σ).map (fun v => (v, h1)) = some (r, h') →
              Calls P f vs.toArray w fun e w' => ∃ v, e = .returned v ∧ Out w0 E h' r v w' := by
            intro e σ h1 hcode he hres
            obtain ⟨x, hx, hxe⟩ := Option.map_eq_some_iff.1 hres
            cases hxe
            refine Calls.of_CW2 hfn hc hfit hsz (CW.mono (acode_sound hm ih c hf k hcode) fun e' τ' w' ⟨he', E', hE', hf', k'⟩ => ⟨he' ▸ he, ?_⟩)
            obtain ⟨v, hv, hr⟩ := ares_sound hf' k' hx
            exact ⟨v, hv fn.ntmps, E', hE', hr, k'⟩
          split at ha
          · rename_i σ h1 hcode; exact fin hcode (.inl rfl) ha
          · rename_i σ h1 hcode; exact fin hcode (.inr rfl) ha
          · cases ha
        · cases ha
      · cases ha
    · cases ha

/-- What is run over plain data, with no block at the start, is what the machine does from whatever world. -/
theorem runs {P : Program} (hm : P.follows .mixedOrders = true) {n : Nat} {f : FuncId} {args : List Value} {v : Value} {m : Nat} {l : List (Option AB)} (ha : acall P n f (args.map fun x => .c (.lit x)) ⟨0, []⟩ = some (.c (.lit v), ⟨m, l⟩)) (w : World) :
    Calls P f args.toArray w fun e w' => ∃ r, e = .returned r ∧ r = v ∧ Below w.heap.size w w' := by
  obtain ⟨_, hk⟩ := acall_sound hm n f _ _ _ _ ha
  refine (hk w w [] args (Hp.start w) ?_).mono fun e w' ⟨r, he, E', hE', hr, k'⟩ => ⟨r, he, hr, ⟨k'.os, k'.tape, k'.output, k'.size, k'.old⟩⟩
  clear ha hk
  induction args with
  | nil => exact .nil
  | cons x l ih => exact .cons rfl ih


/-- 'version(n, most)' taken from a table of its own: of an input that leaves r, r. -/
def vcall (P : Program) (ver : FuncId) (n : Nat) : Call' := fun f args h =>
  if Nat.beq f ver then
    match args with
    | [.c (.hole m r), .c (.lit (.int .i64 (.ofNat k)))] => if Nat.beq m (k + 1) && Nat.blt k 1000 then some (.c (.lit (.int .i64 (r : Int))), h) else none
    | _ => none
  else acall P n f args h

/-- What 'version' does. -/
def VerOk (P : Program) (ver : FuncId) : Prop := Callable P ver ∧ ∀ (w : World) (n k : Nat), n < 256 → k < 1000 → Calls P ver #[.int .u8 (n : Int), .int .i64 (k : Int)] w fun e w' => ∃ v, e = .returned v ∧ v = .int .i64 ((n % (k + 1) : Nat) : Int) ∧ w' = w

theorem vcall_ok {P : Program} (hm : P.follows .mixedOrders = true) {ver : FuncId} (hv : VerOk P ver) (n : Nat) : CallOk P (vcall P ver n) := by
  intro f args h h' r ha
  unfold vcall at ha
  split at ha
  · rename_i hf
    have hf := Nat.eq_of_beq_eq_true hf
    subst hf
    split at ha
    · rename_i m q k
      split at ha
      · rename_i hmk
        simp only [Bool.and_eq_true] at hmk
        have hk1 : k < 1000 := by simpa [Nat.blt_eq] using hmk.2
        have hmk := Nat.eq_of_beq_eq_true hmk.1
        cases ha
        refine ⟨hv.1, fun w0 w E vs kk hvs => ?_⟩
        cases hvs with | cons h1 hvs => cases hvs with | cons h2 hvs => cases hvs with | nil =>
        obtain ⟨p, hp, hlt, hr, rfl⟩ := h1
        obtain rfl := is_lit h2
        refine (hv.2 w p.1 k hlt hk1).mono fun e w' ⟨v, he, hvv, hw⟩ => ⟨v, he, ?_⟩
        subst hw
        refine Out.same kk ?_
        rw [hvv, ← hmk, hr]
        rfl
      · cases ha
    · cases ha
  · exact acall_sound hm n f args h h' r ha

def lawB (P : Program) (ver : FuncId) (c : Code) (fn : Func) (m r : Nat) : Bool :=
  match acode P (vcall P ver 60) 300 c [.c (.hole m r)] ⟨1, [none]⟩ with
  | some (.ret, σ, h) => match ares P h fn σ with
    | some (.c (.lit (.bool true))) => true
    | _ => false
  | _ => false

/-- A law of one number of eight bits that looks at it by 'version' alone: checked once for each rest. -/
theorem law_true {P : Program} (hm : P.follows .mixedOrders = true) {ver : FuncId} (hv : VerOk P ver) {f : FuncId} {fn : Func} {c : Code} (hf : P.funcs[f]? = some fn) (hc : fn.body = some c) (hfit : fits fn.ntmps c = true) (h1 : 1 ≤ fn.ntmps) {m : Nat} (hm0 : 0 < m)
    (h : ∀ r, r < m → lawB P ver c fn m r = true) (w : World) (n : Nat) (hn : n < 256) : Calls P f #[.int .u8 (n : Int)] w fun e w' => ∃ v, e = .returned v ∧ v = .bool true ∧ Below w.heap.size w w' := by
  have hb := h (n % m) (Nat.mod_lt _ hm0)
  unfold lawB at hb
  split at hb
  · rename_i σ h' hcode
    split at hb
    · rename_i hres
      have hfr : FrIs [(n, 0)] [.c (.hole m (n % m))] (frame0 #[.int .u8 (n : Int)]) := by
        intro t
        cases t with
        | zero => exact ⟨(n, 0), rfl, hn, rfl, rfl⟩
        | succ t => simp [AF.get, frame0]; exact AV.un_is _
      refine Calls.of_CW2 hf hc hfit (by simpa using h1) (CW.mono (acode_sound hm (vcall_ok hm hv 60) c hfr (Hp.start1 w n) hcode) fun e' τ' w' ⟨he', E', hE', hf', k'⟩ => ⟨.inr he', ?_⟩)
      obtain ⟨v, hv', hr⟩ := ares_sound hf' k' hres
      exact ⟨v, hv' fn.ntmps, is_lit hr, ⟨k'.os, k'.tape, k'.output, k'.size, k'.old⟩⟩
    · cases hb
  · cases hb

end Go.Kx
