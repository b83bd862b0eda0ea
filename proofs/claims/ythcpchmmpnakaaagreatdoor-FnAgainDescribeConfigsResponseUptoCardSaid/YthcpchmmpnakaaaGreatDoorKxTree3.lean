/- Library texts Tree Tree2 Tree3, joined. -/
import Derived.Test.YthcpchmmpnakaaaGreatDoorKxMem
/- What the reference writes of a tree, in plain Lean; and that it is what the message's fields write of a value. -/
namespace Go.Kx
set_option linter.unusedSimpArgs false
set_option linter.unusedVariables false

/-- What a field says. -/
inductive Tr where
  | mk (n : Int) (s : List UInt8) (null : Bool) (l : List Tr) (u : List (UInt32 × List UInt8))
/-- A field. -/
inductive Fld where
  | mk (kind lo hi null tag dflt of : Int) (sub : List Fld)

def Tr.n : Tr → Int | .mk n _ _ _ _ => n
def Tr.s : Tr → List UInt8 | .mk _ s _ _ _ => s
def Tr.null : Tr → Bool | .mk _ _ b _ _ => b
def Tr.l : Tr → List Tr | .mk _ _ _ l _ => l
def Tr.u : Tr → List (UInt32 × List UInt8) | .mk _ _ _ _ u => u
def Tr.zero : Tr := .mk 0 [] false [] []
def Tr.at (t : Tr) (i : Nat) : Tr := t.l.getD i .zero
def Fld.kind : Fld → Int | .mk a _ _ _ _ _ _ _ => a
def Fld.lo : Fld → Int | .mk _ a _ _ _ _ _ _ => a
def Fld.hi : Fld → Int | .mk _ _ a _ _ _ _ _ => a
def Fld.null : Fld → Int | .mk _ _ _ a _ _ _ _ => a
def Fld.tag : Fld → Int | .mk _ _ _ _ a _ _ _ => a
def Fld.dflt : Fld → Int | .mk _ _ _ _ _ a _ _ => a
def Fld.of : Fld → Int | .mk _ _ _ _ _ _ a _ => a
def Fld.sub : Fld → List Fld | .mk _ _ _ _ _ _ _ a => a

def hasL (f : Fld) (v : Int) : Bool := decide (f.lo ≤ v) && (decide (f.hi < 0) || decide (v ≤ f.hi))
def canNull (f : Fld) (v : Int) : Bool := decide (f.null ≥ 0) && decide (v ≥ f.null)
def nullL (f : Fld) (v : Int) (t : Tr) : Bool := t.null && canNull f v
def wholeL (b : List UInt8) : List UInt8 := b.take 32767
def countedL (fx null : Bool) (n size : Nat) : List UInt8 := if fx then (if null then [0] else uvar (n + 1)) else if null then be size (-1) else be size n
def widthL (kind : Int) : Nat := if kind = 1 then 1 else if kind = 2 ∨ kind = 5 then 2 else if kind = 3 then 4 else 8
def uuidL (s : List UInt8) : List UInt8 := (s ++ List.replicate 16 0).take 16
def valL (pt : List Fld → Tr → List UInt8) (kind : Int) (sub : List Fld) (null fx : Bool) (t : Tr) : List UInt8 :=
  if kind = 0 then [UInt8.ofNat (t.n % 2).toNat]
  else if kind = 7 then uuidL t.s
  else if kind = 8 then countedL fx null (if null then [] else wholeL t.s).length 2 ++ (if null then [] else wholeL t.s)
  else if kind = 9 then countedL fx null (if null then [] else wholeL t.s).length 4 ++ (if null then [] else wholeL t.s)
  else if kind = 10 then pt sub t
  else be (widthL kind) t.n
def thingsL (null : Bool) (t : Tr) : List Tr := if null then [] else t.l.take 32767
def fldL (pt : List Fld → Tr → List UInt8) (f : Fld) (ver : Int) (fx : Bool) (t : Tr) : List UInt8 :=
  if f.kind = 11 then countedL fx (nullL f ver t) (thingsL (nullL f ver t) t).length 4 ++ (thingsL (nullL f ver t) t).flatMap (valL pt f.of f.sub false fx)
  else if f.kind = 10 ∧ f.null ≥ 0 then (if nullL f ver t then [255] else 1 :: pt f.sub t)
  else valL pt f.kind f.sub (nullL f ver t) fx t

def insU (out : List (Nat × List UInt8)) (t : Nat × List UInt8) : List (Nat × List UInt8) := if out.any (fun x => x.1 == t.1) then out else insTag t out
def unkL (u : List (UInt32 × List UInt8)) : List (Nat × List UInt8) := ((u.take 32767).map fun x => (x.1.toNat, x.2)).foldl insU []
def tagL (u : Nat × List UInt8) : List UInt8 := uvar u.1 ++ uvar (wholeL u.2).length ++ wholeL u.2
def tagsL (t : Tr) : List UInt8 := uvar (unkL t.u).length ++ (unkL t.u).flatMap tagL
/-- The fields that a version has, each with its place. -/
def acts (ver : Int) (flds : List Fld) : List (Fld × Nat) := flds.zipIdx.filter fun x => decide (x.1.tag < 0) && hasL x.1 ver
def partG (pt : List Fld → Tr → List UInt8) (ver : Int) (fx : Bool) (flds : List Fld) (t : Tr) : List UInt8 :=
  (acts ver flds).flatMap (fun x => fldL pt x.1 ver fx (t.at x.2)) ++ if fx then tagsL t else []
def partF (ver : Int) (fx : Bool) : Nat → List Fld → Tr → List UInt8
  | 0 => fun _ _ => []
  | d + 1 => partG (partF ver fx d) ver fx

def Fld.parts (f : Fld) : Bool := f.kind == 10 || (f.kind == 11 && f.of == 10)
/-- No field has a tag; parts within parts are no deeper than d. -/
def plainB : Nat → List Fld → Bool
  | 0, _ => false
  | d + 1, flds => flds.all fun f => decide (f.tag < 0) && (!f.parts || plainB d f.sub)

def kindW : Wt → Int → Bool
  | .bool, k => k == 0 | .i8, k => k == 1 | .e8, k => k == 1 | .i16, k => k == 2 | .i32, k => k == 3 | .i64, k => k == 4 | .u16, k => k == 5 | .f64, k => k == 6
  | .uuid, k => k == 7 | .str, k => k == 8 | .nstr, k => k == 8 | .byt, k => k == 9 | .nbyt, k => k == 9
def nulW : Wt → Bool
  | .str => false | .byt => false | _ => true
def nulA (nul : Option Int) (ver : Int) (can : Bool) : Bool := !can || (match nul with | some m => decide (m ≤ ver) | none => false)
def matchS (ver : Int) (fx : Bool) : Sch → List (Fld × Nat) → Bool
  | .nil, l => l.isEmpty && !fx
  | .val c _ w r, l => if c.ok ver then (match l with | x :: l' => (x.1.kind != 11 && x.1.kind != 10) && kindW w x.1.kind && (nulW w || !canNull x.1 ver) && matchS ver fx r l' | [] => false) else matchS ver fx r l
  | .arrV c _ nul w r, l => if c.ok ver then (match l with | x :: l' => x.1.kind == 11 && kindW w x.1.of && nulA nul ver (canNull x.1 ver) && matchS ver fx r l' | [] => false) else matchS ver fx r l
  | .arrS c _ nul _ e r, l => if c.ok ver then (match l with | x :: l' => x.1.kind == 11 && x.1.of == 10 && nulA nul ver (canNull x.1 ver) && matchS ver fx e (acts ver x.1.sub) && matchS ver fx r l' | [] => false) else matchS ver fx r l
  | .opt c _ _ e r, l => if c.ok ver then (match l with | x :: l' => x.1.kind == 10 && decide (x.1.null ≥ 0) && matchS ver fx e (acts ver x.1.sub) && matchS ver fx r l' | [] => false) else matchS ver fx r l
  | .tags _ r, l => if fx then (match r with | .nil => l.isEmpty | _ => false) else matchS ver fx r l

def valV (w : Wt) (null : Bool) (t : Tr) : V :=
  match w with
  | .bool => .b (t.n % 2 != 0)
  | .i8 => .i (IntKind.i8.wrap t.n) | .e8 => .i (IntKind.i8.wrap t.n) | .i16 => .i (IntKind.i16.wrap t.n) | .u16 => .i (IntKind.u16.wrap t.n)
  | .i32 => .i (IntKind.i32.wrap t.n) | .i64 => .i (IntKind.i64.wrap t.n)
  | .f64 => .f (t.n % 18446744073709551616).toNat
  | .uuid => .u (uuidL t.s)
  | .str => .s (wholeL t.s)
  | .nstr => if null then .nsN else .ns (wholeL t.s)
  | .byt => .by_ (wholeL t.s)
  | .nbyt => if null then .byN else .by_ (wholeL t.s)
def tagV (t : Tr) : V := .tags ((unkL t.u).map fun x => (x.1, wholeL x.2))
def mkV (ver : Int) (fx : Bool) : Sch → List (Fld × Nat) → Tr → V
  | .nil, _, _ => .st (List.replicate 64 (.b false))
  | .val c k w r, l, t => if c.ok ver then (match l with | x :: l' => (mkV ver fx r l' t).put k (valV w (nullL x.1 ver (t.at x.2)) (t.at x.2)) | [] => mkV ver fx r [] t) else mkV ver fx r l t
  | .arrV c k nul w r, l, t => if c.ok ver then (match l with | x :: l' => (mkV ver fx r l' t).put k (if nullL x.1 ver (t.at x.2) then .arrN else .arr ((thingsL false (t.at x.2)).map (valV w false))) | [] => mkV ver fx r [] t) else mkV ver fx r l t
  | .arrS c k nul _ e r, l, t => if c.ok ver then (match l with | x :: l' => (mkV ver fx r l' t).put k (if nullL x.1 ver (t.at x.2) then .arrN else .arr ((thingsL false (t.at x.2)).map (mkV ver fx e (acts ver x.1.sub)))) | [] => mkV ver fx r [] t) else mkV ver fx r l t
  | .opt c k _ e r, l, t => if c.ok ver then (match l with | x :: l' => (mkV ver fx r l' t).put k (if nullL x.1 ver (t.at x.2) then .nstN else .nst (mkV ver fx e (acts ver x.1.sub) (t.at x.2))) | [] => mkV ver fx r [] t) else mkV ver fx r l t
  | .tags k r, l, t => (mkV ver fx r l t).put k (tagV t)
def smallB : Sch → Bool
  | .nil => true
  | .val _ k _ r => Nat.blt k 64 && smallB r
  | .arrV _ k _ _ r => Nat.blt k 64 && smallB r
  | .arrS _ k _ _ e r => Nat.blt k 64 && smallB e && smallB r
  | .opt _ k _ e r => Nat.blt k 64 && smallB e && smallB r
  | .tags k r => Nat.blt k 64 && smallB r

/-! ### Numbers -/
set_option maxRecDepth 10000 in
theorem byteAt_emod (x : Int) (m i : Nat) (h : i < m) : byteAt (x % (256 ^ m : Nat)) i = byteAt x i := by
  unfold byteAt
  congr 2
  obtain ⟨j, rfl⟩ : ∃ j, m = i + (j + 1) := ⟨m - i - 1, by omega⟩
  have hp : (0 : Int) < (256 ^ i : Nat) := by exact_mod_cast Nat.pow_pos (by omega)
  have e : ((256 ^ (i + (j + 1)) : Nat) : Int) = (256 ^ i : Nat) * (256 * (256 ^ j : Nat)) := by rw [Nat.pow_add, Nat.pow_succ, Int.natCast_mul, Int.natCast_mul, Int.mul_comm ((256 ^ j : Nat) : Int)]; rfl
  generalize ((256 ^ i : Nat) : Int) = a at *
  generalize ((256 ^ j : Nat) : Int) = b at *
  rw [e]
  have h1 := Int.emod_add_mul_ediv x (a * (256 * b))
  conv => rhs; rw [← h1]
  rw [Int.mul_assoc, Int.add_mul_ediv_left _ _ (by omega), Int.mul_assoc, Int.add_mul_emod_self_left]
theorem be_emod (x : Int) (m : Nat) : ∀ n, n ≤ m → be n (x % (256 ^ m : Nat)) = be n x
  | 0, _ => rfl
  | n + 1, h => by rw [be, be, be_emod x m n (by omega), byteAt_emod x m n (by omega)]
theorem be_wrap (k : IntKind) (n : Nat) (hb : k.bits = 8 * n) (x : Int) : be n (k.wrap x) = be n x := by
  rw [← be_emod (k.wrap x) n n (Nat.le_refl _), ← be_emod x n n (Nat.le_refl _), show ((256 ^ n : Nat) : Int) = 2 ^ k.bits by rw [hb, Int.natCast_pow, Int.pow_mul]; rfl, wrap_emod]

theorem wholeL_len (b : List UInt8) : (wholeL b).length ≤ 32767 := by unfold wholeL; simp; omega
theorem uuidL_len (s : List UInt8) : (uuidL s).length = 16 := by unfold uuidL; simp

theorem counted_str {fx : Bool} {s : List UInt8} (h : s.length ≤ 32767) : countedL fx false s.length 2 ++ s = encStr fx s := by
  unfold countedL encStr
  cases fx
  · rfl
  · simp only [if_true]; rw [word_eq (by omega)]; rfl
theorem counted_byt {fx : Bool} {s : List UInt8} (h : s.length ≤ 32767) : countedL fx false s.length 4 ++ s = encByt fx s := by
  unfold countedL encByt
  cases fx
  · rfl
  · simp only [if_true]; rw [word_eq (by omega)]; rfl
theorem counted_nul {fx : Bool} {n size : Nat} : countedL fx true n size = if fx then uvar 0 else be size (-1) := by
  unfold countedL
  cases fx
  · rfl
  · simp only [if_true]; rw [uvar_small (by omega)]; rfl

theorem valV_enc {pt : List Fld → Tr → List UInt8} {w : Wt} {kind : Int} {sub : List Fld} {null fx : Bool} {t : Tr} (hk : kindW w kind = true) (hn : null = true → nulW w = true) : encW fx w (valV w null t) = valL pt kind sub null fx t ∧ GoodW fx w (valV w null t) := by
  have hwl := wholeL_len t.s
  have okS : okStr fx (wholeL t.s) := by unfold okStr; split <;> omega
  have okY : okByt fx (wholeL t.s) := by unfold okByt; split <;> omega
  cases w <;> simp only [kindW, beq_iff_eq] at hk <;> subst hk
  case bool =>
    refine ⟨?_, trivial⟩
    simp only [valV, encW, valL, if_true, List.cons.injEq, and_true]
    rcases Int.emod_two_eq t.n with h | h <;> rw [h] <;> rfl
  case i8 => exact ⟨by simp only [valV, encW, valL]; simp [widthL, be_wrap .i8 1 rfl], wrap_in _ _⟩
  case e8 => exact ⟨by simp only [valV, encW, valL]; simp [widthL, be_wrap .i8 1 rfl], wrap_in _ _⟩
  case i16 => exact ⟨by simp only [valV, encW, valL]; simp [widthL, be_wrap .i16 2 rfl], wrap_in _ _⟩
  case u16 => exact ⟨by simp only [valV, encW, valL]; simp [widthL, be_wrap .u16 2 rfl], wrap_in _ _⟩
  case i32 => exact ⟨by simp only [valV, encW, valL]; simp [widthL, be_wrap .i32 4 rfl], wrap_in _ _⟩
  case i64 => exact ⟨by simp only [valV, encW, valL]; simp [widthL, be_wrap .i64 8 rfl], wrap_in _ _⟩
  case f64 =>
    refine ⟨?_, by show (t.n % 18446744073709551616).toNat < 18446744073709551616; omega⟩
    simp only [valV, encW, valL]
    simp only [show ((6 : Int) = 0) = False by decide, show ((6 : Int) = 7) = False by decide, show ((6 : Int) = 8) = False by decide, show ((6 : Int) = 9) = False by decide, show ((6 : Int) = 10) = False by decide, if_false, show widthL 6 = 8 from rfl]
    rw [show (((t.n % 18446744073709551616).toNat : Nat) : Int) = t.n % (256 ^ 8 : Nat) by have : ((256 ^ 8 : Nat) : Int) = 18446744073709551616 := by rfl
                                                                                           rw [this]; omega]
    exact be_emod _ _ _ (Nat.le_refl _)
  case uuid => exact ⟨by simp [valV, encW, valL], uuidL_len _⟩
  case str =>
    have h0 : null = false := by cases null with | false => rfl | true => exact absurd (hn rfl) (by decide)
    subst h0
    refine ⟨?_, okS⟩
    simp only [valV, encW, valL]
    simp [counted_str hwl]
  case nstr =>
    cases null with
    | false => exact ⟨by simp only [valV, encW, valL]; simp [counted_str hwl, encW], okS⟩
    | true => exact ⟨by simp only [valV, encW, valL]; simp [counted_nul, encW], trivial⟩
  case byt =>
    have h0 : null = false := by cases null with | false => rfl | true => exact absurd (hn rfl) (by decide)
    subst h0
    refine ⟨?_, okY⟩
    simp only [valV, encW, valL]
    simp [counted_byt hwl]
  case nbyt =>
    cases null with
    | false => exact ⟨by simp only [valV, encW, valL]; simp [counted_byt hwl, encW], okY⟩
    | true => exact ⟨by simp only [valV, encW, valL]; simp [counted_nul, encW], trivial⟩

/-! ### Tags -/
theorem insU_props {N : Nat} {t : Nat × List UInt8} (ht : t.1 < N) : ∀ {out : List (Nat × List UInt8)}, Rising out → (∀ y ∈ out, y.1 < N) → Rising (insU out t) ∧ (∀ y ∈ insU out t, y.1 < N) ∧ (insU out t).length ≤ out.length + 1 := by
  intro out hr hb
  unfold insU
  split
  · exact ⟨hr, hb, by omega⟩
  · rename_i hn
    simp only [List.any_eq_true, beq_iff_eq, not_exists, not_and] at hn
    refine ⟨insTag_rising hr fun y hy e => hn y hy e.symm, fun y hy => ?_, by rw [insTag_len]; omega⟩
    rcases insTag_mem.1 hy with rfl | hy
    · exact ht
    · exact hb y hy
theorem unk_fold {N : Nat} : ∀ (l : List (Nat × List UInt8)) {out : List (Nat × List UInt8)}, (∀ y ∈ l, y.1 < N) → Rising out → (∀ y ∈ out, y.1 < N) → Rising (l.foldl insU out) ∧ (∀ y ∈ l.foldl insU out, y.1 < N) ∧ (l.foldl insU out).length ≤ out.length + l.length
  | [], out, _, hr, hb => ⟨hr, hb, by simp⟩
  | t :: l, out, hl, hr, hb => by
    obtain ⟨h1, h2, h3⟩ := insU_props (N := N) (hl t (by simp)) hr hb
    obtain ⟨h4, h5, h6⟩ := unk_fold l (fun y hy => hl y (by simp [hy])) h1 h2
    exact ⟨h4, h5, by simp only [List.foldl_cons, List.length_cons] at *; omega⟩
theorem unkL_props (u : List (UInt32 × List UInt8)) : Rising (unkL u) ∧ (∀ y ∈ unkL u, y.1 < 4294967296) ∧ (unkL u).length ≤ 32767 := by
  obtain ⟨h1, h2, h3⟩ := unk_fold (N := 4294967296) ((u.take 32767).map fun x => (x.1.toNat, x.2)) (out := []) (fun y hy => by
    simp only [List.mem_map] at hy
    obtain ⟨a, _, rfl⟩ := hy
    exact a.1.toNat_lt) trivial (fun _ h => by cases h)
  refine ⟨h1, h2, ?_⟩
  rw [List.length_map, List.length_take, List.length_nil] at h3
  unfold unkL; omega
theorem rising_map {g : Nat × List UInt8 → Nat × List UInt8} (hg : ∀ x, (g x).1 = x.1) : ∀ {l : List (Nat × List UInt8)}, Rising l → Rising (l.map g)
  | [], _ => trivial
  | x :: l, h => ⟨fun y hy => by
      simp only [List.mem_map] at hy
      obtain ⟨z, hz, rfl⟩ := hy
      rw [hg, hg]; exact h.1 z hz, rising_map hg h.2⟩
theorem rising_nodup : ∀ {l : List (Nat × List UInt8)}, Rising l → (tagKeys l).Nodup
  | [], _ => List.nodup_nil
  | x :: l, h => by
    refine List.nodup_cons.2 ⟨fun hm => ?_, rising_nodup h.2⟩
    simp only [List.mem_map] at hm
    obtain ⟨y, hy, e⟩ := hm
    have := h.1 y hy
    omega
theorem tagV_enc (t : Tr) : encTags (tagV t) = tagsL t ∧ GoodT (tagV t).tagsOf := by
  obtain ⟨h1, h2, h3⟩ := unkL_props t.u
  have hr : Rising ((unkL t.u).map fun x => (x.1, wholeL x.2)) := rising_map (g := fun x => (x.1, wholeL x.2)) (fun _ => rfl) h1
  constructor
  · unfold encTags tagsL tagV V.tagsOf encEach
    simp only [List.length_map]
    rw [word_eq (by omega), sortTags_of_rising hr]
    congr 1
    rw [List.flatMap_map]
    refine congrArg (fun f => List.flatMap f (unkL t.u)) (funext fun x => ?_)
    simp only [encTag, tagL]
    rw [word_eq (by have := wholeL_len x.2; omega)]
  · refine ⟨rising_nodup hr, fun x hx => ?_, by simp only [tagV, V.tagsOf, List.length_map]; omega⟩
    simp only [tagV, V.tagsOf, List.mem_map] at hx
    obtain ⟨y, hy, rfl⟩ := hx
    exact ⟨h2 y hy, by have := wholeL_len y.2; show (wholeL y.2).length < _; omega⟩
end Go.Kx

/- What the reference writes of a tree is what the message's fields write of a value: the law. -/
namespace Go.Kx
set_option linter.unusedSimpArgs false
set_option linter.unusedVariables false

theorem contains_cons_false {k j : Nat} {l : List Nat} (h : (j :: l).contains k = false) : j ≠ k ∧ l.contains k = false := by
  simp only [List.contains_cons, Bool.or_eq_false_iff, beq_eq_false_iff_ne, ne_eq] at h
  exact ⟨fun e => h.1 e.symm, h.2⟩
theorem enc_put {ver : Int} {fx : Bool} {k : Nat} {x : V} : ∀ {s : Sch} {v : V}, s.keys.contains k = false → enc ver fx s (v.put k x) = enc ver fx s v := by
  intro s
  induction s with
  | nil => intro v _; rfl
  | val c j w r ih => intro v h; obtain ⟨h1, h2⟩ := contains_cons_false h; simp only [enc, ih h2, fld_put_ne h1]
  | arrV c j nul w r ih => intro v h; obtain ⟨h1, h2⟩ := contains_cons_false h; simp only [enc, ih h2, fld_put_ne h1]
  | arrS c j nul d e r _ ih => intro v h; obtain ⟨h1, h2⟩ := contains_cons_false h; simp only [enc, ih h2, fld_put_ne h1]
  | opt c j d e r _ ih => intro v h; obtain ⟨h1, h2⟩ := contains_cons_false h; simp only [enc, ih h2, fld_put_ne h1]
  | tags j r ih => intro v h; obtain ⟨h1, h2⟩ := contains_cons_false h; simp only [enc, ih h2, fld_put_ne h1]
theorem Good_put {ver : Int} {fx : Bool} {k : Nat} {x : V} : ∀ {s : Sch} {v : V}, s.keys.contains k = false → Good ver fx s v → Good ver fx s (v.put k x) := by
  intro s
  induction s with
  | nil => intro v _ _; trivial
  | val c j w r ih => intro v h g; obtain ⟨h1, h2⟩ := contains_cons_false h; simp only [Good, fld_put_ne h1] at g ⊢; exact ⟨g.1, ih h2 g.2⟩
  | arrV c j nul w r ih => intro v h g; obtain ⟨h1, h2⟩ := contains_cons_false h; simp only [Good, fld_put_ne h1] at g ⊢; exact ⟨g.1, ih h2 g.2⟩
  | arrS c j nul d e r _ ih => intro v h g; obtain ⟨h1, h2⟩ := contains_cons_false h; simp only [Good, fld_put_ne h1] at g ⊢; exact ⟨g.1, ih h2 g.2⟩
  | opt c j d e r _ ih => intro v h g; obtain ⟨h1, h2⟩ := contains_cons_false h; simp only [Good, fld_put_ne h1] at g ⊢; exact ⟨g.1, ih h2 g.2⟩
  | tags j r ih => intro v h g; obtain ⟨h1, h2⟩ := contains_cons_false h; simp only [Good, fld_put_ne h1] at g ⊢; exact ⟨g.1, ih h2 g.2⟩

theorem put_st {k : Nat} {x v : V} (h : ∃ xs, v = .st xs ∧ xs.length = 64) : ∃ xs, v.put k x = .st xs ∧ xs.length = 64 := by
  obtain ⟨xs, rfl, h⟩ := h
  exact ⟨_, rfl, by simpa using h⟩
theorem mkV_st {ver : Int} {fx : Bool} : ∀ (s : Sch) (l : List (Fld × Nat)) (t : Tr), ∃ xs, mkV ver fx s l t = .st xs ∧ xs.length = 64 := by
  intro s
  induction s with
  | nil => intro l t; exact ⟨_, rfl, by simp⟩
  | val c j w r ih => intro l t; simp only [mkV]; split; · (split; · exact put_st (ih _ _)); · exact ih _ _
                      · exact ih _ _
  | arrV c j nul w r ih => intro l t; simp only [mkV]; split; · (split; · exact put_st (ih _ _)); · exact ih _ _
                           · exact ih _ _
  | arrS c j nul d e r _ ih => intro l t; simp only [mkV]; split; · (split; · exact put_st (ih _ _)); · exact ih _ _
                               · exact ih _ _
  | opt c j d e r _ ih => intro l t; simp only [mkV]; split; · (split; · exact put_st (ih _ _)); · exact ih _ _
                          · exact ih _ _
  | tags j r ih => intro l t; exact put_st (ih _ _)
theorem mkV_fld {ver : Int} {fx : Bool} {s : Sch} {l : List (Fld × Nat)} {t : Tr} {k : Nat} {x : V} (h : Nat.blt k 64 = true) : ((mkV ver fx s l t).put k x).fld k = x := by
  obtain ⟨xs, e, hl⟩ := mkV_st (ver := ver) (fx := fx) s l t
  rw [e]
  exact fld_put (by rw [hl]; exact Nat.le_of_ble_eq_true h)

theorem plain_part {ver : Int} {fx : Bool} {d : Nat} {sub : List Fld} (h : plainB d sub = true) : ∃ d', d = d' + 1 ∧ ∀ x ∈ acts ver sub, (!x.1.parts || plainB d' x.1.sub) = true := by
  cases d with
  | zero => simp [plainB] at h
  | succ d =>
    refine ⟨d, rfl, fun x hx => ?_⟩
    simp only [plainB, List.all_eq_true, Bool.and_eq_true] at h
    simp only [acts, List.mem_filter] at hx
    exact (h x.1 (List.fst_mem_of_mem_zipIdx hx.1)).2

theorem thingsL_len (null : Bool) (t : Tr) : (thingsL null t).length ≤ 32767 := by unfold thingsL; split <;> simp <;> omega
theorem counted_len {fx nul : Bool} {v : V} {n : Nat} (hv : v.isNil = false) (hn : v.elems.length = n) (h : n ≤ 32767) : encLen fx nul v = countedL fx false n 4 := by
  unfold encLen countedL
  rw [hv, Bool.and_false, hn]
  cases fx
  · rfl
  · simp only [if_true]; rw [word_eq (by omega)]; rfl
theorem flatMap_map_congr {α β : Type} {g : β → List UInt8} {f : α → β} {k : α → List UInt8} {l : List α} (h : ∀ x ∈ l, g (f x) = k x) : (l.map f).flatMap g = l.flatMap k := by
  induction l with
  | nil => rfl
  | cons x l ih => simp only [List.map_cons, List.flatMap_cons, h x (by simp), ih fun y hy => h y (by simp [hy])]

theorem fldL_val {pt : List Fld → Tr → List UInt8} {f : Fld} {ver : Int} {fx : Bool} {t : Tr} (h : ¬ f.kind = 11) (h2 : ¬ f.kind = 10) : fldL pt f ver fx t = valL pt f.kind f.sub (nullL f ver t) fx t := by
  unfold fldL
  rw [if_neg h, if_neg fun e => h2 e.1]
theorem fldL_list {pt : List Fld → Tr → List UInt8} {f : Fld} {ver : Int} {fx : Bool} {t : Tr} (h : f.kind = 11) : fldL pt f ver fx t = countedL fx (nullL f ver t) (thingsL (nullL f ver t) t).length 4 ++ (thingsL (nullL f ver t) t).flatMap (valL pt f.of f.sub false fx) := by
  unfold fldL
  rw [if_pos h]
theorem fldL_opt {pt : List Fld → Tr → List UInt8} {f : Fld} {ver : Int} {fx : Bool} {t : Tr} (h : f.kind = 10) (h2 : f.null ≥ 0) : fldL pt f ver fx t = if nullL f ver t then [255] else 1 :: pt f.sub t := by
  unfold fldL
  rw [if_neg (by omega), if_pos ⟨h, h2⟩]

set_option maxHeartbeats 4000000 in
theorem mkV_enc {ver : Int} {fx : Bool} : ∀ (s : Sch) (d : Nat) (l : List (Fld × Nat)) (t : Tr), matchS ver fx s l = true → okB ver fx s = true → smallB s = true → (∀ x ∈ l, (!x.1.parts || plainB d x.1.sub) = true) →
    enc ver fx s (mkV ver fx s l t) = l.flatMap (fun x => fldL (partF ver fx d) x.1 ver fx (t.at x.2)) ++ (if fx then tagsL t else []) ∧ Good ver fx s (mkV ver fx s l t) := by
  intro s
  induction s with
  | nil =>
    intro d l t hm _ _ _
    simp only [matchS, Bool.and_eq_true, List.isEmpty_iff, Bool.not_eq_true'] at hm
    obtain ⟨rfl, rfl⟩ := hm
    exact ⟨rfl, trivial⟩
  | val c k w r ih =>
    intro d l t hm hok hsm hpl
    simp only [okB, Bool.and_eq_true] at hok
    obtain ⟨hk, hok⟩ := hok
    obtain ⟨hk1, _⟩ := notin hk
    simp only [smallB, Bool.and_eq_true] at hsm
    simp only [matchS] at hm
    by_cases hc : c.ok ver = true
    · simp only [if_pos hc] at hm
      split at hm
      · rename_i x l'
        simp only [Bool.and_eq_true, bne_iff_ne, ne_eq] at hm
        obtain ⟨⟨⟨⟨h11, h10⟩, hkw⟩, hn⟩, hm⟩ := hm
        obtain ⟨i1, i2⟩ := ih d l' t hm hok hsm.2 fun y hy => hpl y (by simp [hy])
        obtain ⟨j1, j2⟩ := valV_enc (pt := partF ver fx d) (fx := fx) (sub := x.1.sub) (null := nullL x.1 ver (t.at x.2)) (t := t.at x.2) hkw (fun h => by
          simp only [nullL, Bool.and_eq_true] at h
          simpa [h.2] using hn)
        simp only [enc, Good, mkV, if_pos hc, mkV_fld hsm.1]
        refine ⟨?_, fun _ => j2, Good_put hk1 i2⟩
        rw [enc_put hk1, i1, j1, List.flatMap_cons, List.append_assoc]
        rw [fldL_val h11 h10]
      · cases hm
    · simp only [if_neg hc] at hm
      obtain ⟨i1, i2⟩ := ih d l t hm hok hsm.2 hpl
      simp only [enc, Good, mkV, if_neg hc, List.nil_append]
      exact ⟨i1, fun h => absurd h hc, i2⟩
  | arrV c k nul w r ih =>
    intro d l t hm hok hsm hpl
    simp only [okB, Bool.and_eq_true] at hok
    obtain ⟨hk, hok⟩ := hok
    obtain ⟨hk1, _⟩ := notin hk
    simp only [smallB, Bool.and_eq_true] at hsm
    simp only [matchS] at hm
    by_cases hc : c.ok ver = true
    · simp only [if_pos hc] at hm
      split at hm
      · rename_i x l'
        simp only [Bool.and_eq_true, beq_iff_eq] at hm
        obtain ⟨⟨⟨h11, hkw⟩, hn⟩, hm⟩ := hm
        obtain ⟨i1, i2⟩ := ih d l' t hm hok hsm.2 fun y hy => hpl y (by simp [hy])
        simp only [enc, Good, mkV, if_pos hc, mkV_fld hsm.1]
        rw [enc_put hk1, i1, List.flatMap_cons, List.append_assoc]
        rw [fldL_list h11]
        have hgood : ∀ y : Tr, GoodW fx w (valV w false y) ∧ encW fx w (valV w false y) = valL (partF ver fx d) x.1.of x.1.sub false fx y := fun y => by
          obtain ⟨a, b⟩ := valV_enc (pt := partF ver fx d) (fx := fx) (sub := x.1.sub) (null := false) (t := y) hkw (fun h => by cases h)
          exact ⟨b, a⟩
        by_cases hnul : nullL x.1 ver (t.at x.2) = true
        · have hcan : canNull x.1 ver = true := by simp only [nullL, Bool.and_eq_true] at hnul; exact hnul.2
          simp only [nulA, hcan, Bool.not_true, Bool.false_or] at hn
          split at hn
          · rename_i m
            simp only [decide_eq_true_eq] at hn
            simp only [hnul, if_true]
            refine ⟨?_, fun _ => ⟨⟨by simp [V.elems], fun m' e hlt => ?_⟩, fun y hy => by simp [V.elems] at hy⟩, Good_put hk1 i2⟩
            · rw [counted_nul]
              simp only [encLen, V.isNil, V.elems, Option.isSome, Bool.and_self, if_true, List.flatMap_nil, show thingsL true (t.at x.2) = [] from rfl, List.append_nil, List.nil_append, List.append_assoc]
            · simp only [Option.some.injEq] at e; omega
          · cases hn
        · simp only [Bool.not_eq_true] at hnul
          simp only [hnul, if_neg (show ¬ (false = true) by decide)]
          have hlen := thingsL_len false (t.at x.2)
          refine ⟨?_, fun _ => ⟨⟨by simp only [V.elems, List.length_map]; omega, fun _ _ _ => rfl⟩, fun y hy => ?_⟩, Good_put hk1 i2⟩
          · rw [counted_len (n := (thingsL false (t.at x.2)).length) rfl (by simp [V.elems]) hlen]
            simp only [V.elems]
            rw [flatMap_map_congr fun y _ => (hgood y).2]
            simp only [List.append_assoc]
          · simp only [V.elems, List.mem_map] at hy
            obtain ⟨z, _, rfl⟩ := hy
            exact (hgood z).1
      · cases hm
    · simp only [if_neg hc] at hm
      obtain ⟨i1, i2⟩ := ih d l t hm hok hsm.2 hpl
      simp only [enc, Good, mkV, if_neg hc, List.nil_append]
      exact ⟨i1, fun h => absurd h hc, i2⟩
  | arrS c k nul dv e r ihe ih =>
    intro d l t hm hok hsm hpl
    simp only [okB, Bool.and_eq_true] at hok
    obtain ⟨⟨hk, hoke⟩, hok⟩ := hok
    obtain ⟨hk1, _⟩ := notin hk
    simp only [smallB, Bool.and_eq_true] at hsm
    simp only [matchS] at hm
    by_cases hc : c.ok ver = true
    · simp only [if_pos hc] at hm
      simp only [hc, Bool.not_true, Bool.false_or, Bool.and_eq_true] at hoke
      split at hm
      · rename_i x l'
        simp only [Bool.and_eq_true, beq_iff_eq] at hm
        obtain ⟨⟨⟨⟨h11, hof⟩, hn⟩, hme⟩, hm⟩ := hm
        obtain ⟨i1, i2⟩ := ih d l' t hm hok hsm.2 fun y hy => hpl y (by simp [hy])
        have hp0 : plainB d x.1.sub = true := by
          have := hpl x (by simp)
          simpa [Fld.parts, h11, hof] using this
        obtain ⟨d', rfl, hp1⟩ := plain_part (ver := ver) (fx := fx) hp0
        simp only [enc, Good, mkV, if_pos hc, mkV_fld hsm.1.1]
        rw [enc_put hk1, i1, List.flatMap_cons, List.append_assoc]
        rw [fldL_list h11]
        have hgood : ∀ y : Tr, Good ver fx e (mkV ver fx e (acts ver x.1.sub) y) ∧ enc ver fx e (mkV ver fx e (acts ver x.1.sub) y) = valL (partF ver fx (d' + 1)) x.1.of x.1.sub false fx y := fun y => by
          obtain ⟨a, b⟩ := ihe d' (acts ver x.1.sub) y hme hoke.1.2 hsm.1.2 hp1
          refine ⟨b, a.trans ?_⟩
          rw [hof]
          rfl
        by_cases hnul : nullL x.1 ver (t.at x.2) = true
        · have hcan : canNull x.1 ver = true := by simp only [nullL, Bool.and_eq_true] at hnul; exact hnul.2
          simp only [nulA, hcan, Bool.not_true, Bool.false_or] at hn
          split at hn
          · rename_i m
            simp only [decide_eq_true_eq] at hn
            simp only [hnul, if_true]
            refine ⟨?_, fun _ => ⟨⟨by simp [V.elems], fun m' e hlt => ?_⟩, fun y hy => by simp [V.elems] at hy⟩, Good_put hk1 i2⟩
            · rw [counted_nul]
              simp only [encLen, V.isNil, V.elems, Option.isSome, Bool.and_self, if_true, List.flatMap_nil, show thingsL true (t.at x.2) = [] from rfl, List.append_nil, List.nil_append, List.append_assoc]
            · simp only [Option.some.injEq] at e; omega
          · cases hn
        · simp only [Bool.not_eq_true] at hnul
          simp only [hnul, if_neg (show ¬ (false = true) by decide)]
          have hlen := thingsL_len false (t.at x.2)
          refine ⟨?_, fun _ => ⟨⟨by simp only [V.elems, List.length_map]; omega, fun _ _ _ => rfl⟩, fun y hy => ?_⟩, Good_put hk1 i2⟩
          · rw [counted_len (n := (thingsL false (t.at x.2)).length) rfl (by simp [V.elems]) hlen]
            simp only [V.elems]
            rw [flatMap_map_congr fun y _ => (hgood y).2]
            simp only [List.append_assoc]
          · simp only [V.elems, List.mem_map] at hy
            obtain ⟨z, _, rfl⟩ := hy
            exact (hgood z).1
      · cases hm
    · simp only [if_neg hc] at hm
      obtain ⟨i1, i2⟩ := ih d l t hm hok hsm.2 hpl
      simp only [enc, Good, mkV, if_neg hc, List.nil_append]
      exact ⟨i1, fun h => absurd h hc, i2⟩
  | opt c k dv e r ihe ih =>
    intro d l t hm hok hsm hpl
    simp only [okB, Bool.and_eq_true] at hok
    obtain ⟨⟨hk, hoke⟩, hok⟩ := hok
    obtain ⟨hk1, _⟩ := notin hk
    simp only [smallB, Bool.and_eq_true] at hsm
    simp only [matchS] at hm
    by_cases hc : c.ok ver = true
    · simp only [if_pos hc] at hm
      simp only [hc, Bool.not_true, Bool.false_or, Bool.and_eq_true] at hoke
      split at hm
      · rename_i x l'
        simp only [Bool.and_eq_true, beq_iff_eq, decide_eq_true_eq] at hm
        obtain ⟨⟨⟨h10, hnn⟩, hme⟩, hm⟩ := hm
        obtain ⟨i1, i2⟩ := ih d l' t hm hok hsm.2 fun y hy => hpl y (by simp [hy])
        have hp0 : plainB d x.1.sub = true := by
          have := hpl x (by simp)
          simpa [Fld.parts, h10] using this
        obtain ⟨d', rfl, hp1⟩ := plain_part (ver := ver) (fx := fx) hp0
        simp only [enc, Good, mkV, if_pos hc, mkV_fld hsm.1.1]
        rw [enc_put hk1, i1, List.flatMap_cons, List.append_assoc]
        rw [fldL_opt h10 hnn]
        obtain ⟨a, b⟩ := ihe d' (acts ver x.1.sub) (t.at x.2) hme hoke.1 hsm.1.2 hp1
        by_cases hnul : nullL x.1 ver (t.at x.2) = true
        · simp only [hnul, if_true]
          exact ⟨trivial, fun _ y h => (by cases h), Good_put hk1 i2⟩
        · simp only [Bool.not_eq_true] at hnul
          simp only [hnul, if_neg (show ¬ (false = true) by decide)]
          refine ⟨?_, fun _ y h => (by cases h; exact b), Good_put hk1 i2⟩
          rw [a]
          rfl
      · cases hm
    · simp only [if_neg hc] at hm
      obtain ⟨i1, i2⟩ := ih d l t hm hok hsm.2 hpl
      simp only [enc, Good, mkV, if_neg hc, List.nil_append]
      exact ⟨i1, fun h => absurd h hc, i2⟩
  | tags k r ih =>
    intro d l t hm hok hsm hpl
    simp only [okB, Bool.and_eq_true] at hok
    obtain ⟨hk, hok⟩ := hok
    obtain ⟨hk1, _⟩ := notin hk
    simp only [smallB, Bool.and_eq_true] at hsm
    simp only [matchS] at hm
    obtain ⟨j1, j2⟩ := tagV_enc t
    cases fx with
    | true =>
      simp only [if_true] at hm
      split at hm
      · simp only [List.isEmpty_iff] at hm
        subst hm
        simp only [enc, Good, mkV, if_true, mkV_fld hsm.1, List.flatMap_nil, List.nil_append, List.append_nil]
        simp only [show ((V.st (List.replicate 64 (V.b false))).put k (tagV t)).fld k = tagV t from mkV_fld (ver := ver) (fx := true) (s := .nil) (l := []) (t := t) hsm.1]
        exact ⟨j1, fun _ => j2, trivial⟩
      · cases hm
    | false =>
      simp only [if_neg (show ¬ (false = true) by decide)] at hm
      obtain ⟨i1, i2⟩ := ih d l t hm hok hsm.2 hpl
      simp only [enc, Good, mkV, if_neg (show ¬ (false = true) by decide), List.nil_append]
      rw [enc_put hk1]
      exact ⟨i1, fun h => (by cases h), Good_put hk1 i2⟩
end Go.Kx

/- How long what the reference writes of a tree may be. -/
namespace Go.Kx
set_option linter.unusedSimpArgs false
set_option linter.unusedVariables false

def twU : List (UInt32 × List UInt8) → Nat
  | [] => 0
  | x :: r => 3 + x.2.length + twU r
mutual
/-- How many values and letters a tree holds, at least. -/
def Tr.tw : Tr → Nat
  | .mk _ s _ l u => 6 + s.length + twL l + twU u
def twL : List Tr → Nat
  | [] => 0
  | t :: r => t.tw + twL r
end
theorem Tr.tw_eq (t : Tr) : t.tw = 6 + t.s.length + twL t.l + twU t.u := by cases t; simp only [Tr.tw, Tr.s, Tr.l, Tr.u]
theorem twL_mem : ∀ {l : List Tr} {i : Nat} {x : Tr}, l[i]? = some x → x.tw ≤ twL l
  | [], _, _, h => by simp at h
  | y :: l, 0, x, h => by simp only [List.getElem?_cons_zero, Option.some.injEq] at h; subst h; simp only [twL]; omega
  | y :: l, i + 1, x, h => by
    simp only [List.getElem?_cons_succ] at h
    have := twL_mem h
    simp only [twL]; omega
theorem tw_at (t : Tr) (i : Nat) : (t.at i).tw ≤ t.tw := by
  unfold Tr.at
  rw [List.getD_eq_getElem?_getD]
  have h6 := t.tw_eq
  cases h : t.l[i]? with
  | none => simp only [Option.getD_none]; show Tr.tw (.mk 0 [] false [] []) ≤ _; simp only [Tr.tw, List.length_nil, twL, twU]; omega
  | some x => have := twL_mem h; simp only [Option.getD_some]; omega
theorem twL_take : ∀ (n : Nat) (l : List Tr), twL (l.take n) ≤ twL l
  | 0, l => by simp [twL]
  | n + 1, [] => by simp [twL]
  | n + 1, x :: l => by have := twL_take n l; simp only [List.take_succ_cons, twL]; omega

theorem uvar_le : ∀ (k n : Nat), n < 128 ^ (k + 1) → (uvar n).length ≤ k + 1
  | 0, n, h => by rw [uvar_small (by omega)]; simp
  | k + 1, n, h => by
    by_cases hn : n < 128
    · rw [uvar_small hn]; simp
    · rw [uvar_big hn, List.length_cons]
      have := uvar_le k (n / 128) (by rw [Nat.pow_succ] at h; omega)
      omega

def wsum (l : List (Nat × List UInt8)) : Nat := (l.map fun x => 3 + x.2.length).sum
theorem wsum_ins (x : Nat × List UInt8) : ∀ l, wsum (insTag x l) = 3 + x.2.length + wsum l
  | [] => by simp [insTag, wsum]
  | y :: l => by
    simp only [insTag]
    split
    · simp [wsum]
    · have := wsum_ins x l
      simp only [wsum, List.map_cons, List.sum_cons] at *
      omega
theorem wsum_insU (out : List (Nat × List UInt8)) (x : Nat × List UInt8) : wsum (insU out x) ≤ 3 + x.2.length + wsum out := by
  unfold insU
  split
  · omega
  · rw [wsum_ins]; omega
theorem wsum_fold : ∀ (l out : List (Nat × List UInt8)), wsum (l.foldl insU out) ≤ wsum l + wsum out
  | [], out => by simp [wsum]
  | x :: l, out => by
    have h1 := wsum_fold l (insU out x)
    have h2 := wsum_insU out x
    have h3 : wsum (x :: l) = 3 + x.2.length + wsum l := by simp [wsum]
    simp only [List.foldl_cons]; omega
theorem wsum_unk (u : List (UInt32 × List UInt8)) : wsum (unkL u) ≤ twU u := by
  have h1 := wsum_fold ((u.take 32767).map fun x => (x.1.toNat, x.2)) []
  have h2 : ∀ (n : Nat) (u : List (UInt32 × List UInt8)), wsum ((u.take n).map fun x => (x.1.toNat, x.2)) ≤ twU u := by
    intro n u
    induction u generalizing n with
    | nil => simp [wsum, twU]
    | cons x u ih =>
      cases n with
      | zero => simp [wsum]
      | succ n =>
        have := ih n
        simp only [List.take_succ_cons, List.map_cons, wsum, List.sum_cons, twU] at *
        omega
  have h3 := h2 32767 u
  have h4 : wsum [] = 0 := rfl
  unfold unkL
  omega
theorem tags_sum : ∀ {l : List (Nat × List UInt8)}, (∀ y ∈ l, y.1 < 4294967296) → (l.flatMap tagL).length ≤ 4 * wsum l
  | [], _ => by simp [wsum]
  | x :: l, h => by
    have h1 := tags_sum (l := l) fun y hy => h y (by simp [hy])
    have h2 := uvar_le 4 x.1 (by have := h x (by simp); omega)
    have h3 := wholeL_len x.2
    have h4 := uvar_le 2 (wholeL x.2).length (by omega)
    have h5 : (wholeL x.2).length ≤ x.2.length := by unfold wholeL; simp; omega
    simp only [List.flatMap_cons, List.length_append, tagL, wsum, List.map_cons, List.sum_cons] at *
    omega
theorem tagsL_len (t : Tr) : (tagsL t).length ≤ 4 * t.tw := by
  obtain ⟨_, h2, h3⟩ := unkL_props t.u
  have h4 := tags_sum h2
  have h5 := wsum_unk t.u
  have h6 := uvar_le 2 (unkL t.u).length (by omega)
  have h7 := t.tw_eq
  simp only [tagsL, List.length_append]
  omega

def costK (c : List Fld → Nat) (kind : Int) (sub : List Fld) : Nat := if kind = 10 then c sub else 3
def costFld (c : List Fld → Nat) (f : Fld) : Nat := 1 + if f.kind = 11 then costK c f.of f.sub else costK c f.kind f.sub
def costF : Nat → List Fld → Nat
  | 0, _ => 0
  | d + 1, flds => 4 + (flds.map (costFld (costF d))).sum

theorem countedL_len {fx null : Bool} {n size : Nat} (hn : n ≤ 32767) (hs : size ≤ 4) : (countedL fx null n size).length ≤ 4 := by
  unfold countedL
  split
  · split
    · simp
    · have := uvar_le 2 (n + 1) (by omega)
      omega
  · split <;> rw [be_length] <;> omega
theorem valL_len {pt : List Fld → Tr → List UInt8} {c : List Fld → Nat} {kind : Int} {sub : List Fld} {null fx : Bool} {t : Tr} (hp : (pt sub t).length ≤ c sub * t.tw) : (valL pt kind sub null fx t).length ≤ costK c kind sub * t.tw := by
  have h6 := t.tw_eq
  have hw := wholeL_len t.s
  have hw2 : (wholeL t.s).length ≤ t.s.length := by unfold wholeL; simp; omega
  unfold valL costK
  by_cases h10 : kind = 10
  · subst h10; simpa using hp
  · rw [if_neg h10]
    split
    · simp; omega
    · split
      · rw [uuidL_len]; omega
      · split
        · rw [List.length_append]
          have := countedL_len (fx := fx) (null := null) (n := (if null = true then [] else wholeL t.s).length) (size := 2) (by split <;> first | (simp; done) | omega) (by omega)
          have h9 : (if null = true then ([] : List UInt8) else wholeL t.s).length ≤ t.s.length := by split <;> first | (simp; done) | omega
          omega
        · split
          · rw [List.length_append]
            have := countedL_len (fx := fx) (null := null) (n := (if null = true then [] else wholeL t.s).length) (size := 4) (by split <;> first | (simp; done) | omega) (by omega)
            have h9 : (if null = true then ([] : List UInt8) else wholeL t.s).length ≤ t.s.length := by split <;> first | (simp; done) | omega
            omega
          · rw [be_length]
            unfold widthL
            split
            · omega
            · split
              · omega
              · split <;> omega
theorem list_len {k : Nat} {g : Tr → List UInt8} : ∀ {l : List Tr}, (∀ x ∈ l, (g x).length ≤ k * x.tw) → (l.flatMap g).length ≤ k * twL l
  | [], _ => by simp
  | x :: l, h => by
    have h1 := list_len (k := k) (l := l) fun y hy => h y (by simp [hy])
    have h2 := h x (by simp)
    simp only [List.flatMap_cons, List.length_append, twL, Nat.mul_add]
    omega
theorem fldL_len {pt : List Fld → Tr → List UInt8} {c : List Fld → Nat} {f : Fld} {ver : Int} {fx : Bool} {t : Tr} (hp : ∀ t, (pt f.sub t).length ≤ c f.sub * t.tw) : (fldL pt f ver fx t).length ≤ costFld c f * t.tw := by
  have h6 := t.tw_eq
  unfold costFld
  by_cases h11 : f.kind = 11
  · rw [fldL_list h11, if_pos h11, List.length_append, Nat.add_mul]
    have h1 := countedL_len (fx := fx) (null := nullL f ver t) (n := (thingsL (nullL f ver t) t).length) (size := 4) (thingsL_len _ _) (by omega)
    have h2 := list_len (k := costK c f.of f.sub) (g := valL pt f.of f.sub false fx) (l := thingsL (nullL f ver t) t) fun x _ => valL_len (hp x)
    have h3 : twL (thingsL (nullL f ver t) t) ≤ twL t.l := by
      unfold thingsL
      split
      · simp [twL]
      · exact twL_take _ _
    have h4 : costK c f.of f.sub * twL (thingsL (nullL f ver t) t) ≤ costK c f.of f.sub * t.tw := Nat.mul_le_mul_left _ (by omega)
    omega
  · rw [if_neg h11, Nat.add_mul]
    by_cases h10 : f.kind = 10 ∧ f.null ≥ 0
    · rw [fldL_opt h10.1 h10.2]
      have := hp t
      simp only [costK, h10.1, if_true]
      split
      · simp; omega
      · simp only [List.length_cons]; omega
    · have e : fldL pt f ver fx t = valL pt f.kind f.sub (nullL f ver t) fx t := by unfold fldL; rw [if_neg h11, if_neg h10]
      rw [e]
      have := valL_len (kind := f.kind) (null := nullL f ver t) (fx := fx) (hp t)
      omega
theorem acts_sum {ver : Int} {g : Fld × Nat → Nat} {k : Fld → Nat} (m : Nat) (h : ∀ f i, g (f, i) ≤ k f * m) : ∀ (flds : List Fld) (i : Nat), (((flds.zipIdx i).filter fun x => decide (x.1.tag < 0) && hasL x.1 ver).map g).sum ≤ (flds.map k).sum * m
  | [], _ => by simp
  | f :: flds, i => by
    have h1 := acts_sum (ver := ver) m h flds (i + 1)
    have h2 := h f i
    simp only [List.zipIdx_cons, List.map_cons, List.sum_cons, Nat.add_mul]
    rw [List.filter_cons]
    split
    · simp only [List.map_cons, List.sum_cons]; omega
    · omega
theorem partF_len {ver : Int} {fx : Bool} : ∀ (d : Nat) (flds : List Fld) (t : Tr), (partF ver fx d flds t).length ≤ costF d flds * t.tw
  | 0, _, _ => by simp [partF]
  | d + 1, flds, t => by
    simp only [partF, partG, costF, List.length_append, List.length_flatMap, Nat.add_mul]
    have h1 := acts_sum (ver := ver) (g := fun x => (fldL (partF ver fx d) x.1 ver fx (t.at x.2)).length) (k := costFld (costF d)) t.tw (fun f i => by
      have h2 := fldL_len (pt := partF ver fx d) (c := costF d) (f := f) (ver := ver) (fx := fx) (t := t.at i) (fun t => partF_len d f.sub t)
      have h3 := tw_at t i
      exact Nat.le_trans h2 (Nat.mul_le_mul_left _ h3)) flds 0
    have h4 : (if fx = true then tagsL t else []).length ≤ 4 * t.tw := by
      split
      · exact tagsL_len t
      · simp
    simp only [acts]
    omega
end Go.Kx
