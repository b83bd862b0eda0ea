/- Code over plain data: regions (those that draw too), branches, loops, calls; that the machine does the same. -/
import Derived.Test.YtmidelapgdpnoabKxRun5
namespace Go.Kx
open Go.RowKit
set_option linter.unusedSimpArgs false
set_option linter.unusedVariables false

abbrev Call' := FuncId → List AV → AH → Option (AV × AH)

def astep (P : Program) (call : Call') (h : AH) (σ : AF) (op : Op) : Option (AV × AH) :=
  match asFun op with
  | some (f, args) => call f (args.map (aev σ)) h
  | none => aop P h (aev σ) op
where
  asFun : Op → Option (FuncId × List Operand)
    | .call c => match c.callee with
      | .value (.func f) => some (f, c.args.toList)
      | _ => none
    | _ => none

def isB (b : Bool) : Value → Bool
  | .bool x => x == b
  | _ => false
def awanted (ops : Array Oper) (σ : AF) (o : Oper) : Option Bool :=
  match o.guard with
  | none => some true
  | some (j, b) => match (ops[j]?).bind (·.dst) with
    | some d => match σ.get d with
      | .c (.lit v) => some (isB b v)
      | _ => none
    | none => some false

def AF.upd (σ : AF) (d : Option Nat) (v : AV) : AF := match d with | some d => σ.set d v | none => σ

def aregion (P : Program) (call : Call') (ops : Array Oper) : List Oper → AF → AH → Option (AF × AH)
  | [], σ, h => some (σ, h)
  | o :: l, σ, h => match awanted ops σ o with
    | some true => match astep P call h σ o.op with
      | some (v, h') => aregion P call ops l (σ.upd o.dst v) h'
      | none => none
    | some false => aregion P call ops l (σ.upd o.dst AV.un) h
    | none => none

def litEq : Value → Value → Bool
  | .int k a, .int k' b => decide (k = k') && a == b
  | .bool a, .bool b => a == b
  | .slice none 0 0, .slice none 0 0 => true
  | .pointer none, .pointer none => true
  | .map none, .map none => true
  | .string a, .string b => decide (a.data.toList = b.data.toList)
  | _, _ => false
def acEq : AC → AC → Bool
  | .lit a, .lit b => litEq a b
  | .ptr a b, .ptr c d => Nat.beq a c && Nat.beq b d
  | .sl a b c, .sl a' b' c' => Nat.beq a a' && Nat.beq b b' && decide (c = c')
  | _, _ => false
def acsEq : List AC → List AC → Bool
  | [], [] => true
  | a :: l, b :: m => acEq a b && acsEq l m
  | _, _ => false
def abEq (a b : AB) : Bool := Nat.beq a.e b.e && decide (a.row = b.row) && acsEq a.cs b.cs

theorem litEq_eq {a b : Value} (h : litEq a b = true) : a = b := by
  unfold litEq at h
  split at h
  · simp only [Bool.and_eq_true, decide_eq_true_eq, beq_iff_eq] at h; rw [h.1, h.2]
  · simp only [beq_iff_eq] at h; rw [h]
  · rfl
  · rfl
  · rfl
  · rename_i a b
    simp only [decide_eq_true_eq] at h
    obtain ⟨a⟩ := a
    obtain ⟨b⟩ := b
    congr 2
    exact Array.ext' h
  · cases h
theorem acEq_eq {a b : AC} (h : acEq a b = true) : a = b := by
  unfold acEq at h
  split at h
  · rw [litEq_eq h]
  · simp only [Bool.and_eq_true] at h; rw [Nat.eq_of_beq_eq_true h.1, Nat.eq_of_beq_eq_true h.2]
  · simp only [Bool.and_eq_true, decide_eq_true_eq] at h; rw [Nat.eq_of_beq_eq_true h.1.1, Nat.eq_of_beq_eq_true h.1.2, h.2]
  · cases h
theorem acsEq_eq : ∀ {l m : List AC}, acsEq l m = true → l = m
  | [], [], _ => rfl
  | a :: l, b :: m, h => by
    simp only [acsEq, Bool.and_eq_true] at h
    rw [acEq_eq h.1, acsEq_eq h.2]
  | [], _ :: _, h => by simp [acsEq] at h
  | _ :: _, [], h => by simp [acsEq] at h
theorem abEq_eq {a b : AB} (h : abEq a b = true) : a = b := by
  obtain ⟨e, r, cs⟩ := a
  obtain ⟨e', r', cs'⟩ := b
  simp only [abEq, Bool.and_eq_true, decide_eq_true_eq] at h
  obtain ⟨⟨h1, h2⟩, h3⟩ := h
  rw [Nat.eq_of_beq_eq_true h1, h2, acsEq_eq h3]

/-- The blocks that are kept for early reading. -/
def kept (l : List (Nat × AB)) (i : Nat) : Option AB := (l.find? fun x => Nat.beq x.1 i).map (·.2)
def stillB (l : List (Nat × AB)) (h : AH) : Bool := l.all fun x => match h.get x.1 with | some b => abEq b x.2 | none => false

/-- The next place that may be taken early: with what it yields. -/
def early (P : Program) (look : Nat → Option AB) (ops : Array Oper) (listed : Array Bool) (σ : AF) : List Nat → Option (Nat × Oper × AV)
  | [] => none
  | i :: rs => match ops[i]? with
    | some o => if Region.free .any ops listed i then
        match awanted ops σ o with
        | some true => match apure P look (aev σ) o.op with
          | some v => some (i, o, v)
          | none => early P look ops listed σ rs
        | some false => some (i, o, AV.un)
        | none => early P look ops listed σ rs
      else early P look ops listed σ rs
    | none => none

/-- The blocks that are read early. -/
def areads (P : Program) (h : AH) (ops : Array Oper) : Nat → Array Bool → AF → List (Nat × AB)
  | 0, _, _ => []
  | n + 1, listed, σ => match early P h.get ops listed σ (Region.ready .any ops listed) with
    | some (i, o, v) =>
      let rest := areads P h ops n (listed.setIfInBounds i true) (σ.upd o.dst v)
      match o.op with
      | .load _ x => match aev σ x with
        | .c (.ptr b _) => match h.get b with
          | some B => (b, B) :: rest
          | none => rest
        | _ => rest
      | _ => rest
    | none => []

def adraw (P : Program) (call : Call') (R : List (Nat × AB)) (ops : Array Oper) : Nat → Array Bool → AF → AH → Option (List (Nat × Bool) × AF × AH)
  | 0, listed, σ, h => some ([], σ, h)
  | n + 1, listed, σ, h =>
    match Region.ready .any ops listed with
    | [] => some ([], σ, h)
    | rs =>
      match early P (kept R) ops listed σ rs with
      | some (i, o, v) => (adraw P call R ops n (listed.setIfInBounds i true) (σ.upd o.dst v) h).map fun x => ((i, true) :: x.1, x.2)
      | none =>
        match rs with
        | [i] => match ops[i]? with
          | some o => match awanted ops σ o with
            | some true => match astep P call h σ o.op with
              | some (v, h') => if stillB R h' then (adraw P call R ops n (listed.setIfInBounds i true) (σ.upd o.dst v) h').map fun x => ((i, false) :: x.1, x.2) else none
              | none => none
            | _ => none
          | none => none
        | _ => none

def adrawn (P : Program) (call : Call') (ops : Array Oper) (σ : AF) (h : AH) : Option (AF × AH) :=
  let l0 := Array.replicate ops.size false
  let R := areads P h ops ops.size l0 σ
  match adraw P call R ops ops.size l0 σ h with
  | some (l, σ', h') => if Region.noSelect ops && schedB ops l0 l && Nat.ble l.length ops.size && stillB R h then some (σ', h') else none
  | none => none

def aiter (step : AF → AH → Option (Exit × AF × AH)) : Nat → AF → AH → Option (Exit × AF × AH)
  | 0, _, _ => none
  | n + 1, σ, h => match step σ h with
    | some (.normal, σ', h') => aiter step n σ' h'
    | r => r

def acode (P : Program) (call : Call') (fuel : Nat) : Code → AF → AH → Option (Exit × AF × AH)
  | .skip, σ, h => some (.normal, σ, h)
  | .ret, σ, h => some (.ret, σ, h)
  | .exit id, σ, h => some (.exit id, σ, h)
  | .seq a b, σ, h => match acode P call fuel a σ h with
    | some (.normal, σ', h') => acode P call fuel b σ' h'
    | r => r
  | .cond c a b, σ, h => match aev σ c with
    | .c (.lit (.bool true)) => acode P call fuel a σ h
    | .c (.lit (.bool false)) => acode P call fuel b σ h
    | _ => none
  | .block id c, σ, h => match acode P call fuel c σ h with
    | some (.exit i, σ', h') => if Nat.beq i id then some (.normal, σ', h') else some (.exit i, σ', h')
    | r => r
  | .loop c, σ, h => aiter (fun σ h => acode P call fuel c σ h) fuel σ h
  | .region _ ops false, σ, h => (aregion P call ops ops.toList σ h).map fun x => (.normal, x.1, x.2)
  | .region _ ops true, σ, h => (adrawn P call ops σ h).map fun x => (.normal, x.1, x.2)
  | _, _, _ => none

def ares (P : Program) (h : AH) (fn : Func) (σ : AF) : Option AV :=
  match fn.results.toList with
  | [] => some (.c (.lit (.tuple #[])))
  | [.tmp t] => some (σ.get t)
  | [.cell t ty] => apure P h.get (aev σ) (.load ty (.tmp t))
  | _ => none

def acall (P : Program) : Nat → Call'
  | 0 => fun _ _ _ => none
  | n + 1 => fun f args h =>
    match P.funcs[f]? with
    | some fn => match fn.body with
      | some c =>
        if fits fn.ntmps c && Nat.ble args.length fn.ntmps && !(fn.name == "runtime.NumGoroutine") then
          match acode P (acall P n) 300 c args h with
          | some (.normal, σ, h') => (ares P h' fn σ).map fun v => (v, h')
          | some (.ret, σ, h') => (ares P h' fn σ).map fun v => (v, h')
          | _ => none
        else none
      | none => none
    | none => none

end Go.Kx
