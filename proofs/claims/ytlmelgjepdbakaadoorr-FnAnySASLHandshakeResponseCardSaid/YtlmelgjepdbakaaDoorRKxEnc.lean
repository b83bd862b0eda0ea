/- Messages as octets: the kinds of what is written, the fields of a part, and how values of them are written. Plain functions. -/
import Derived.Test.YtlmelgjepdbakaaDoorRKxVal
namespace Go.Kx
set_option linter.unusedSimpArgs false
set_option linter.unusedVariables false

/-- The octet of a number at a place (0: the lowest one). -/
def byteAt (n : Int) (i : Nat) : UInt8 := UInt8.ofNat ((n / (256 ^ i : Nat)) % 256).toNat
/-- A number in k octets, the highest one first. -/
def be : Nat → Int → List UInt8
  | 0, _ => []
  | k + 1, n => byteAt n k :: be k n

theorem be_length (k : Nat) (n : Int) : (be k n).length = k := by
  induction k with
  | zero => rfl
  | succ k ih => simp [be, ih]

/-- A number in groups of seven bits, the lowest one first. -/
def uvar (n : Nat) : List UInt8 := if n < 128 then [UInt8.ofNat n] else UInt8.ofNat (n % 128 + 128) :: uvar (n / 128)
termination_by n
decreasing_by omega

theorem uvar_small {n : Nat} (h : n < 128) : uvar n = [UInt8.ofNat n] := by rw [uvar, if_pos h]
theorem uvar_big {n : Nat} (h : ¬ n < 128) : uvar n = UInt8.ofNat (n % 128 + 128) :: uvar (n / 128) := by rw [uvar, if_neg h]

/-- Kinds of values as they are written. -/
inductive Wt where
  | bool | i8 | i16 | u16 | i32 | i64 | f64 | uuid | e8 | str | nstr | byt | nbyt
  deriving DecidableEq

def Wt.ty : Wt → Ty
  | .bool => .bool | .i8 => .int .i8 | .e8 => .int .i8 | .i16 => .int .i16 | .u16 => .int .u16 | .i32 => .int .i32 | .i64 => .int .i64
  | .f64 => .f64 | .uuid => .uuid | .str => .str | .nstr => .nstr | .byt => .bytes | .nbyt => .bytes

/-- Which versions have a field. -/
inductive Vc where
  | all | ge (n : Int) | rng (lo hi : Int)
  deriving DecidableEq

def Vc.ok : Vc → Int → Bool
  | .all, _ => true
  | .ge n, v => decide (v ≥ n)
  | .rng lo hi, v => decide (v ≥ lo) && decide (v ≤ hi)

/-- The fields of a part, in the order in which they are written. k: the field's place in the struct. nul: whether a list may be null, and from which version on. d: what a new thing of a list, or a new part, is. -/
inductive Sch where
  | nil
  | val (c : Vc) (k : Nat) (w : Wt) (r : Sch)
  | arrV (c : Vc) (k : Nat) (nul : Option Int) (w : Wt) (r : Sch)
  | arrS (c : Vc) (k : Nat) (nul : Option Int) (d : V) (e : Sch) (r : Sch)
  | opt (c : Vc) (k : Nat) (d : V) (e : Sch) (r : Sch)
  | tags (k : Nat) (r : Sch)

def word (n : Nat) : Nat := n % 4294967296

def encStr (fx : Bool) (l : List UInt8) : List UInt8 := if fx then uvar (word (l.length + 1)) ++ l else be 2 l.length ++ l
def encByt (fx : Bool) (l : List UInt8) : List UInt8 := if fx then uvar (word (l.length + 1)) ++ l else be 4 l.length ++ l

def encW (fx : Bool) : Wt → V → List UInt8
  | .bool, .b x => [if x then 1 else 0]
  | .i8, .i n => be 1 n
  | .e8, .i n => be 1 n
  | .i16, .i n => be 2 n
  | .u16, .i n => be 2 n
  | .i32, .i n => be 4 n
  | .i64, .i n => be 8 n
  | .f64, .f n => be 8 n
  | .uuid, .u l => l
  | .str, .s l => encStr fx l
  | .nstr, .nsN => if fx then uvar 0 else be 2 (-1)
  | .nstr, .ns l => encStr fx l
  | .byt, .byN => encByt fx []
  | .byt, .by_ l => encByt fx l
  | .nbyt, .byN => if fx then uvar 0 else be 4 (-1)
  | .nbyt, .by_ l => encByt fx l
  | _, _ => []

def V.elems : V → List V
  | .arr l => l
  | _ => []
def V.isNil : V → Bool
  | .arrN => true
  | _ => false

def encLen (fx nul : Bool) (v : V) : List UInt8 :=
  if nul && v.isNil then (if fx then uvar 0 else be 4 (-1))
  else if fx then uvar (word (v.elems.length + 1)) else be 4 v.elems.length

/-- Tags by rising numbers. -/
def insTag (x : Nat × List UInt8) : List (Nat × List UInt8) → List (Nat × List UInt8)
  | [] => [x]
  | y :: l => if x.1 < y.1 then x :: y :: l else y :: insTag x l
def sortTags : List (Nat × List UInt8) → List (Nat × List UInt8)
  | [] => []
  | x :: l => insTag x (sortTags l)

def encTag (x : Nat × List UInt8) : List UInt8 := uvar x.1 ++ uvar (word x.2.length) ++ x.2
def encEach (l : List (Nat × List UInt8)) : List UInt8 := (sortTags l).flatMap encTag
def V.tagsOf : V → List (Nat × List UInt8)
  | .tags l => l
  | _ => []
def encTags (v : V) : List UInt8 := uvar (word v.tagsOf.length) ++ encEach v.tagsOf

def enc (ver : Int) (fx : Bool) : Sch → V → List UInt8
  | .nil, _ => []
  | .val c k w r, v => (if c.ok ver then encW fx w (v.fld k) else []) ++ enc ver fx r v
  | .arrV c k nul w r, v => (if c.ok ver then encLen fx nul.isSome (v.fld k) ++ (v.fld k).elems.flatMap (encW fx w) else []) ++ enc ver fx r v
  | .arrS c k nul _ e r, v => (if c.ok ver then encLen fx nul.isSome (v.fld k) ++ (v.fld k).elems.flatMap (enc ver fx e) else []) ++ enc ver fx r v
  | .opt c k _ e r, v => (if c.ok ver then (match v.fld k with | .nst x => 1 :: enc ver fx e x | _ => [255]) else []) ++ enc ver fx r v
  | .tags k r, v => (if fx then encTags (v.fld k) else []) ++ enc ver fx r v

/-- No part of a message has tags. -/
def noTags : Sch → V → Prop
  | .nil, _ => True
  | .val _ _ _ r, v => noTags r v
  | .arrV _ _ _ _ r, v => noTags r v
  | .arrS _ k _ _ e r, v => (∀ (i : Nat) (u : V), (v.fld k).elems[i]? = some u → noTags e u) ∧ noTags r v
  | .opt _ k _ e r, v => (∀ u : V, v.fld k = .nst u → noTags e u) ∧ noTags r v
  | .tags k r, v => (v.fld k).tagsOf = [] ∧ noTags r v

end Go.Kx
