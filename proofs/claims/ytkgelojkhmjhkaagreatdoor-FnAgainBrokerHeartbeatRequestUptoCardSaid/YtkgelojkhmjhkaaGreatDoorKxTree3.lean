/- Library texts Tree Tree2 Tree3, joined. -/
import Derived.Test.YtkgelojkhmjhkaaGreatDoorKxMem
/- What the reference writes of a tree, in plain Lean; and that it is what the message's fields write of a value. -/
namespace Go.Kx
set_option linter.unusedSimpArgs false
set_option linter.unusedVariables false

/-- What a field says. -/
inductive Tr where
  | mk (n : Int) (s : List UInt8) (null : Bool) (l : List Tr) (u : List (UInt32 × List UInt8))
/-- A field. -/
inductive Fld where
  | mk (kind lo hi null tag dflt of : Int) (sub : List Fld)

def Tr.n : Tr → Int | .mk n _ _ _ _ => n
def Tr.s : Tr → List UInt8 | .mk _ s _ _ _ => s
def Tr.null : Tr → Bool | .mk _ _ b _ _ => b
def Tr.l : Tr → List Tr | .mk _ _ _ l _ => l
def Tr.u : Tr → List (UInt32 × List UInt8) | .mk _ _ _ _ u => u
def Tr.zero : Tr := .mk 0 [] false [] []
def Tr.at (t : Tr) (i : Nat) : Tr := t.l.getD i .zero
def Fld.kind : Fld → Int | .mk a _ _ _ _ _ _ _ => a
def Fld.lo : Fld → Int | .mk _ a _ _ _ _ _ _ => a
def Fld.hi : Fld → Int | .mk _ _ a _ _ _ _ _ => a
def Fld.null : Fld → Int | .mk _ _ _ a _ _ _ _ => a
def Fld.tag : Fld → Int | .mk _ _ _ _ a _ _ _ => a
def Fld.dflt : Fld → Int | .mk _ _ _ _ _ a _ _ => a
def Fld.of : Fld → Int | .mk _ _ _ _ _ _ a _ => a
def Fld.sub : Fld → List Fld | .mk _ _ _ _ _ _ _ a => a

def hasL (f : Fld) (v : Int) : Bool := decide (f.lo ≤ v) && (decide (f.hi < 0) || decide (v ≤ f.hi))
def canNull (f : Fld) (v : Int) : Bool := decide (f.null ≥ 0) && decide (v ≥ f.null)
def nullL (f : Fld) (v : Int) (t : Tr) : Bool := t.null && canNull f v
def wholeL (b : List UInt8) : List UInt8 := b.take 32767
def countedL (fx null : Bool) (n size : Nat) : List UInt8 := if fx then (if null then [0] else uvar (n + 1)) else if null then be size (-1) else be size n
def widthL (kind : Int) : Nat := if kind = 1 then 1 else if kind = 2 ∨ kind = 5 then 2 else if kind = 3 then 4 else 8
def uuidL (s : List UInt8) : List UInt8 := (s ++ List.replicate 16 0).take 16
def valL (pt : List Fld → Tr → List UInt8) (kind : Int) (sub : List Fld) (null fx : Bool) (t : Tr) : List UInt8 :=
  if kind = 0 then [UInt8.ofNat (t.n % 2).toNat]
  else if kind = 7 then uuidL t.s
  else if kind = 8 then countedL fx null (if null then [] else wholeL t.s).length 2 ++ (if null then [] else wholeL t.s)
  else if kind = 9 then countedL fx null (if null then [] else wholeL t.s).length 4 ++ (if null then [] else wholeL t.s)
  else if kind = 10 then pt sub t
  else be (widthL kind) t.n
def thingsL (null : Bool) (t : Tr) : List Tr := if null then [] else t.l.take 32767
def fldL (pt : List Fld → Tr → List UInt8) (f : Fld) (ver : Int) (fx : Bool) (t : Tr) : List UInt8 :=
  if f.kind = 11 then countedL fx (nullL f ver t) (thingsL (nullL f ver t) t).length 4 ++ (thingsL (nullL f ver t) t).flatMap (valL pt f.of f.sub false fx)
  else if f.kind = 10 ∧ f.null ≥ 0 then (if nullL f ver t then [255] else 1 :: pt f.sub t)
  else valL pt f.kind f.sub (nullL f ver t) fx t

def insU (out : List (Nat × List UInt8)) (t : Nat × List UInt8) : List (Nat × List UInt8) := if out.any (fun x => x.1 == t.1) then out else insTag t out
def unkL (u : List (UInt32 × List UInt8)) : List (Nat × List UInt8) := ((u.take 32767).map fun x => (x.1.toNat, x.2)).foldl insU []
def tagL (u : Nat × List UInt8) : List UInt8 := uvar u.1 ++ uvar (wholeL u.2).length ++ wholeL u.2
def tagsL (t : Tr) : List UInt8 := uvar (unkL t.u).length ++ (unkL t.u).flatMap tagL
/-- The fields that a version has, each with its place. -/
def acts (ver : Int) (flds : List Fld) : List (Fld × Nat) := flds.zipIdx.filter fun x => decide (x.1.tag < 0) && hasL x.1 ver
def partG (pt : List Fld → Tr → List UInt8) (ver : Int) (fx : Bool) (flds : List Fld) (t : Tr) : List UInt8 :=
  (acts ver flds).flatMap (fun x => fldL pt x.1 ver fx (t.at x.2)) ++ if fx then tagsL t else []
def partF (ver : Int) (fx : Bool) : Nat → List Fld → Tr → List UInt8
  | 0 => fun _ _ => []
  | d + 1 => partG (partF ver fx d) ver fx

def Fld.parts (f : Fld) : Bool := f.kind == 10 || (f.kind == 11 && f.of == 10)
/-- No field has a tag; parts within parts are no deeper than d. -/
def plainB : Nat → List Fld → Bool
  | 0, _ => false
  | d + 1, flds => flds.all fun f => decide (f.tag < 0) && (!f.parts || plainB d f.sub)

def kindW : Wt → Int → Bool
  | .bool, k => k == 0 | .i8, k => k == 1 | .e8, k => k == 1 | .i16, k => k == 2 | .i32, k => k == 3 | .i64, k => k == 4 | .u16, k => k == 5 | .f64, k => k == 6
  | .uuid, k => k == 7 | .str, k => k == 8 | .nstr, k => k == 8 | .byt, k => k == 9 | .nbyt, k => k == 9
def nulW : Wt → Bool
  | .str => false | .byt => false | _ => true
def valV (w : Wt) (null : Bool) (t : Tr) : V :=
  match w with
  | .bool => .b (t.n % 2 != 0)
  | .i8 => .i (IntKind.i8.wrap t.n) | .e8 => .i (IntKind.i8.wrap t.n) | .i16 => .i (IntKind.i16.wrap t.n) | .u16 => .i (IntKind.u16.wrap t.n)
  | .i32 => .i (IntKind.i32.wrap t.n) | .i64 => .i (IntKind.i64.wrap t.n)
  | .f64 => .f (t.n % 18446744073709551616).toNat
  | .uuid => .u (uuidL t.s)
  | .str => .s (wholeL t.s)
  | .nstr => if null then .nsN else .ns (wholeL t.s)
  | .byt => .by_ (wholeL t.s)
  | .nbyt => if null then .byN else .by_ (wholeL t.s)
/-! ### Numbers -/
set_option maxRecDepth 10000 in
theorem byteAt_emod (x : Int) (m i : Nat) (h : i < m) : byteAt (x % (256 ^ m : Nat)) i = byteAt x i := by
  unfold byteAt
  congr 2
  obtain ⟨j, rfl⟩ : ∃ j, m = i + (j + 1) := ⟨m - i - 1, by omega⟩
  have hp : (0 : Int) < (256 ^ i : Nat) := by exact_mod_cast Nat.pow_pos (by omega)
  have e : ((256 ^ (i + (j + 1)) : Nat) : Int) = (256 ^ i : Nat) * (256 * (256 ^ j : Nat)) := by rw [Nat.pow_add, Nat.pow_succ, Int.natCast_mul, Int.natCast_mul, Int.mul_comm ((256 ^ j : Nat) : Int)]; rfl
  generalize ((256 ^ i : Nat) : Int) = a at *
  generalize ((256 ^ j : Nat) : Int) = b at *
  rw [e]
  have h1 := Int.emod_add_mul_ediv x (a * (256 * b))
  conv => rhs; rw [← h1]
  rw [Int.mul_assoc, Int.add_mul_ediv_left _ _ (by omega), Int.mul_assoc, Int.add_mul_emod_self_left]
theorem be_emod (x : Int) (m : Nat) : ∀ n, n ≤ m → be n (x % (256 ^ m : Nat)) = be n x
  | 0, _ => rfl
  | n + 1, h => by rw [be, be, be_emod x m n (by omega), byteAt_emod x m n (by omega)]
theorem be_wrap (k : IntKind) (n : Nat) (hb : k.bits = 8 * n) (x : Int) : be n (k.wrap x) = be n x := by
  rw [← be_emod (k.wrap x) n n (Nat.le_refl _), ← be_emod x n n (Nat.le_refl _), show ((256 ^ n : Nat) : Int) = 2 ^ k.bits by rw [hb, Int.natCast_pow, Int.pow_mul]; rfl, wrap_emod]

theorem wholeL_len (b : List UInt8) : (wholeL b).length ≤ 32767 := by unfold wholeL; simp; omega
theorem uuidL_len (s : List UInt8) : (uuidL s).length = 16 := by unfold uuidL; simp

theorem counted_str {fx : Bool} {s : List UInt8} (h : s.length ≤ 32767) : countedL fx false s.length 2 ++ s = encStr fx s := by
  unfold countedL encStr
  cases fx
  · rfl
  · simp only [if_true]; rw [word_eq (by omega)]; rfl
theorem counted_byt {fx : Bool} {s : List UInt8} (h : s.length ≤ 32767) : countedL fx false s.length 4 ++ s = encByt fx s := by
  unfold countedL encByt
  cases fx
  · rfl
  · simp only [if_true]; rw [word_eq (by omega)]; rfl
theorem counted_nul {fx : Bool} {n size : Nat} : countedL fx true n size = if fx then uvar 0 else be size (-1) := by
  unfold countedL
  cases fx
  · rfl
  · simp only [if_true]; rw [uvar_small (by omega)]; rfl

theorem valV_enc {pt : List Fld → Tr → List UInt8} {w : Wt} {kind : Int} {sub : List Fld} {null fx : Bool} {t : Tr} (hk : kindW w kind = true) (hn : null = true → nulW w = true) : encW fx w (valV w null t) = valL pt kind sub null fx t ∧ GoodW fx w (valV w null t) := by
  have hwl := wholeL_len t.s
  have okS : okStr fx (wholeL t.s) := by unfold okStr; split <;> omega
  have okY : okByt fx (wholeL t.s) := by unfold okByt; split <;> omega
  cases w <;> simp only [kindW, beq_iff_eq] at hk <;> subst hk
  case bool =>
    refine ⟨?_, trivial⟩
    simp only [valV, encW, valL, if_true, List.cons.injEq, and_true]
    rcases Int.emod_two_eq t.n with h | h <;> rw [h] <;> rfl
  case i8 => exact ⟨by simp only [valV, encW, valL]; simp [widthL, be_wrap .i8 1 rfl], wrap_in _ _⟩
  case e8 => exact ⟨by simp only [valV, encW, valL]; simp [widthL, be_wrap .i8 1 rfl], wrap_in _ _⟩
  case i16 => exact ⟨by simp only [valV, encW, valL]; simp [widthL, be_wrap .i16 2 rfl], wrap_in _ _⟩
  case u16 => exact ⟨by simp only [valV, encW, valL]; simp [widthL, be_wrap .u16 2 rfl], wrap_in _ _⟩
  case i32 => exact ⟨by simp only [valV, encW, valL]; simp [widthL, be_wrap .i32 4 rfl], wrap_in _ _⟩
  case i64 => exact ⟨by simp only [valV, encW, valL]; simp [widthL, be_wrap .i64 8 rfl], wrap_in _ _⟩
  case f64 =>
    refine ⟨?_, by show (t.n % 18446744073709551616).toNat < 18446744073709551616; omega⟩
    simp only [valV, encW, valL]
    simp only [show ((6 : Int) = 0) = False by decide, show ((6 : Int) = 7) = False by decide, show ((6 : Int) = 8) = False by decide, show ((6 : Int) = 9) = False by decide, show ((6 : Int) = 10) = False by decide, if_false, show widthL 6 = 8 from rfl]
    rw [show (((t.n % 18446744073709551616).toNat : Nat) : Int) = t.n % (256 ^ 8 : Nat) by have : ((256 ^ 8 : Nat) : Int) = 18446744073709551616 := by rfl
                                                                                           rw [this]; omega]
    exact be_emod _ _ _ (Nat.le_refl _)
  case uuid => exact ⟨by simp [valV, encW, valL], uuidL_len _⟩
  case str =>
    have h0 : null = false := by cases null with | false => rfl | true => exact absurd (hn rfl) (by decide)
    subst h0
    refine ⟨?_, okS⟩
    simp only [valV, encW, valL]
    simp [counted_str hwl]
  case nstr =>
    cases null with
    | false => exact ⟨by simp only [valV, encW, valL]; simp [counted_str hwl, encW], okS⟩
    | true => exact ⟨by simp only [valV, encW, valL]; simp [counted_nul, encW], trivial⟩
  case byt =>
    have h0 : null = false := by cases null with | false => rfl | true => exact absurd (hn rfl) (by decide)
    subst h0
    refine ⟨?_, okY⟩
    simp only [valV, encW, valL]
    simp [counted_byt hwl]
  case nbyt =>
    cases null with
    | false => exact ⟨by simp only [valV, encW, valL]; simp [counted_byt hwl, encW], okY⟩
    | true => exact ⟨by simp only [valV, encW, valL]; simp [counted_nul, encW], trivial⟩

/-! ### Tags -/
theorem insU_props {N : Nat} {t : Nat × List UInt8} (ht : t.1 < N) : ∀ {out : List (Nat × List UInt8)}, Rising out → (∀ y ∈ out, y.1 < N) → Rising (insU out t) ∧ (∀ y ∈ insU out t, y.1 < N) ∧ (insU out t).length ≤ out.length + 1 := by
  intro out hr hb
  unfold insU
  split
  · exact ⟨hr, hb, by omega⟩
  · rename_i hn
    simp only [List.any_eq_true, beq_iff_eq, not_exists, not_and] at hn
    refine ⟨insTag_rising hr fun y hy e => hn y hy e.symm, fun y hy => ?_, by rw [insTag_len]; omega⟩
    rcases insTag_mem.1 hy with rfl | hy
    · exact ht
    · exact hb y hy
theorem unk_fold {N : Nat} : ∀ (l : List (Nat × List UInt8)) {out : List (Nat × List UInt8)}, (∀ y ∈ l, y.1 < N) → Rising out → (∀ y ∈ out, y.1 < N) → Rising (l.foldl insU out) ∧ (∀ y ∈ l.foldl insU out, y.1 < N) ∧ (l.foldl insU out).length ≤ out.length + l.length
  | [], out, _, hr, hb => ⟨hr, hb, by simp⟩
  | t :: l, out, hl, hr, hb => by
    obtain ⟨h1, h2, h3⟩ := insU_props (N := N) (hl t (by simp)) hr hb
    obtain ⟨h4, h5, h6⟩ := unk_fold l (fun y hy => hl y (by simp [hy])) h1 h2
    exact ⟨h4, h5, by simp only [List.foldl_cons, List.length_cons] at *; omega⟩
theorem unkL_props (u : List (UInt32 × List UInt8)) : Rising (unkL u) ∧ (∀ y ∈ unkL u, y.1 < 4294967296) ∧ (unkL u).length ≤ 32767 := by
  obtain ⟨h1, h2, h3⟩ := unk_fold (N := 4294967296) ((u.take 32767).map fun x => (x.1.toNat, x.2)) (out := []) (fun y hy => by
    simp only [List.mem_map] at hy
    obtain ⟨a, _, rfl⟩ := hy
    exact a.1.toNat_lt) trivial (fun _ h => by cases h)
  refine ⟨h1, h2, ?_⟩
  rw [List.length_map, List.length_take, List.length_nil] at h3
  unfold unkL; omega
theorem rising_map {g : Nat × List UInt8 → Nat × List UInt8} (hg : ∀ x, (g x).1 = x.1) : ∀ {l : List (Nat × List UInt8)}, Rising l → Rising (l.map g)
  | [], _ => trivial
  | x :: l, h => ⟨fun y hy => by
      simp only [List.mem_map] at hy
      obtain ⟨z, hz, rfl⟩ := hy
      rw [hg, hg]; exact h.1 z hz, rising_map hg h.2⟩
theorem rising_nodup : ∀ {l : List (Nat × List UInt8)}, Rising l → (tagKeys l).Nodup
  | [], _ => List.nodup_nil
  | x :: l, h => by
    refine List.nodup_cons.2 ⟨fun hm => ?_, rising_nodup h.2⟩
    simp only [List.mem_map] at hm
    obtain ⟨y, hy, e⟩ := hm
    have := h.1 y hy
    omega
end Go.Kx

/- What the reference writes of a tree is what the message's fields write of a value: the law. -/
namespace Go.Kx
set_option linter.unusedSimpArgs false
set_option linter.unusedVariables false

theorem thingsL_len (null : Bool) (t : Tr) : (thingsL null t).length ≤ 32767 := by unfold thingsL; split <;> simp <;> omega
theorem fldL_list {pt : List Fld → Tr → List UInt8} {f : Fld} {ver : Int} {fx : Bool} {t : Tr} (h : f.kind = 11) : fldL pt f ver fx t = countedL fx (nullL f ver t) (thingsL (nullL f ver t) t).length 4 ++ (thingsL (nullL f ver t) t).flatMap (valL pt f.of f.sub false fx) := by
  unfold fldL
  rw [if_pos h]
theorem fldL_opt {pt : List Fld → Tr → List UInt8} {f : Fld} {ver : Int} {fx : Bool} {t : Tr} (h : f.kind = 10) (h2 : f.null ≥ 0) : fldL pt f ver fx t = if nullL f ver t then [255] else 1 :: pt f.sub t := by
  unfold fldL
  rw [if_neg (by omega), if_pos ⟨h, h2⟩]

end Go.Kx

/- How long what the reference writes of a tree may be. -/
namespace Go.Kx
set_option linter.unusedSimpArgs false
set_option linter.unusedVariables false

def twU : List (UInt32 × List UInt8) → Nat
  | [] => 0
  | x :: r => 3 + x.2.length + twU r
mutual
/-- How many values and letters a tree holds, at least. -/
def Tr.tw : Tr → Nat
  | .mk _ s _ l u => 6 + s.length + twL l + twU u
def twL : List Tr → Nat
  | [] => 0
  | t :: r => t.tw + twL r
end
theorem Tr.tw_eq (t : Tr) : t.tw = 6 + t.s.length + twL t.l + twU t.u := by cases t; simp only [Tr.tw, Tr.s, Tr.l, Tr.u]
theorem uvar_le : ∀ (k n : Nat), n < 128 ^ (k + 1) → (uvar n).length ≤ k + 1
  | 0, n, h => by rw [uvar_small (by omega)]; simp
  | k + 1, n, h => by
    by_cases hn : n < 128
    · rw [uvar_small hn]; simp
    · rw [uvar_big hn, List.length_cons]
      have := uvar_le k (n / 128) (by rw [Nat.pow_succ] at h; omega)
      omega

def wsum (l : List (Nat × List UInt8)) : Nat := (l.map fun x => 3 + x.2.length).sum
theorem wsum_ins (x : Nat × List UInt8) : ∀ l, wsum (insTag x l) = 3 + x.2.length + wsum l
  | [] => by simp [insTag, wsum]
  | y :: l => by
    simp only [insTag]
    split
    · simp [wsum]
    · have := wsum_ins x l
      simp only [wsum, List.map_cons, List.sum_cons] at *
      omega
theorem wsum_insU (out : List (Nat × List UInt8)) (x : Nat × List UInt8) : wsum (insU out x) ≤ 3 + x.2.length + wsum out := by
  unfold insU
  split
  · omega
  · rw [wsum_ins]; omega
theorem wsum_fold : ∀ (l out : List (Nat × List UInt8)), wsum (l.foldl insU out) ≤ wsum l + wsum out
  | [], out => by simp [wsum]
  | x :: l, out => by
    have h1 := wsum_fold l (insU out x)
    have h2 := wsum_insU out x
    have h3 : wsum (x :: l) = 3 + x.2.length + wsum l := by simp [wsum]
    simp only [List.foldl_cons]; omega
theorem tags_sum : ∀ {l : List (Nat × List UInt8)}, (∀ y ∈ l, y.1 < 4294967296) → (l.flatMap tagL).length ≤ 4 * wsum l
  | [], _ => by simp [wsum]
  | x :: l, h => by
    have h1 := tags_sum (l := l) fun y hy => h y (by simp [hy])
    have h2 := uvar_le 4 x.1 (by have := h x (by simp); omega)
    have h3 := wholeL_len x.2
    have h4 := uvar_le 2 (wholeL x.2).length (by omega)
    have h5 : (wholeL x.2).length ≤ x.2.length := by unfold wholeL; simp; omega
    simp only [List.flatMap_cons, List.length_append, tagL, wsum, List.map_cons, List.sum_cons] at *
    omega
theorem countedL_len {fx null : Bool} {n size : Nat} (hn : n ≤ 32767) (hs : size ≤ 4) : (countedL fx null n size).length ≤ 4 := by
  unfold countedL
  split
  · split
    · simp
    · have := uvar_le 2 (n + 1) (by omega)
      omega
  · split <;> rw [be_length] <;> omega
end Go.Kx
