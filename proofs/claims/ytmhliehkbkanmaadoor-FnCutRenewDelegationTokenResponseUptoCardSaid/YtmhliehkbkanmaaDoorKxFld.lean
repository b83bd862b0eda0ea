/- Library texts Run6 Run7 Fld, joined. -/
import Derived.Test.YtmhliehkbkanmaaDoorKxRun5
/- Code over plain data: regions (those that draw too), branches, loops, calls; that the machine does the same. -/
namespace Go.Kx
open Go.RowKit
set_option linter.unusedSimpArgs false
set_option linter.unusedVariables false

abbrev Call' := FuncId → List AV → AH → Option (AV × AH)

def astep (P : Program) (call : Call') (h : AH) (σ : AF) (op : Op) : Option (AV × AH) :=
  match asFun op with
  | some (f, args) => call f (args.map (aev σ)) h
  | none => aop P h (aev σ) op
where
  asFun : Op → Option (FuncId × List Operand)
    | .call c => match c.callee with
      | .value (.func f) => some (f, c.args.toList)
      | _ => none
    | _ => none

def isB (b : Bool) : Value → Bool
  | .bool x => x == b
  | _ => false
def awanted (ops : Array Oper) (σ : AF) (o : Oper) : Option Bool :=
  match o.guard with
  | none => some true
  | some (j, b) => match (ops[j]?).bind (·.dst) with
    | some d => match σ.get d with
      | .c (.lit v) => some (isB b v)
      | _ => none
    | none => some false

def AF.upd (σ : AF) (d : Option Nat) (v : AV) : AF := match d with | some d => σ.set d v | none => σ

def aregion (P : Program) (call : Call') (ops : Array Oper) : List Oper → AF → AH → Option (AF × AH)
  | [], σ, h => some (σ, h)
  | o :: l, σ, h => match awanted ops σ o with
    | some true => match astep P call h σ o.op with
      | some (v, h') => aregion P call ops l (σ.upd o.dst v) h'
      | none => none
    | some false => aregion P call ops l (σ.upd o.dst AV.un) h
    | none => none

def litEq : Value → Value → Bool
  | .int k a, .int k' b => decide (k = k') && a == b
  | .bool a, .bool b => a == b
  | .slice none 0 0, .slice none 0 0 => true
  | .pointer none, .pointer none => true
  | .map none, .map none => true
  | .string a, .string b => decide (a.data.toList = b.data.toList)
  | _, _ => false
def acEq : AC → AC → Bool
  | .lit a, .lit b => litEq a b
  | .ptr a b, .ptr c d => Nat.beq a c && Nat.beq b d
  | .sl a b c, .sl a' b' c' => Nat.beq a a' && Nat.beq b b' && decide (c = c')
  | _, _ => false
def acsEq : List AC → List AC → Bool
  | [], [] => true
  | a :: l, b :: m => acEq a b && acsEq l m
  | _, _ => false
def abEq (a b : AB) : Bool := Nat.beq a.e b.e && decide (a.row = b.row) && acsEq a.cs b.cs

theorem litEq_eq {a b : Value} (h : litEq a b = true) : a = b := by
  unfold litEq at h
  split at h
  · simp only [Bool.and_eq_true, decide_eq_true_eq, beq_iff_eq] at h; rw [h.1, h.2]
  · simp only [beq_iff_eq] at h; rw [h]
  · rfl
  · rfl
  · rfl
  · rename_i a b
    simp only [decide_eq_true_eq] at h
    obtain ⟨a⟩ := a
    obtain ⟨b⟩ := b
    congr 2
    exact Array.ext' h
  · cases h
theorem acEq_eq {a b : AC} (h : acEq a b = true) : a = b := by
  unfold acEq at h
  split at h
  · rw [litEq_eq h]
  · simp only [Bool.and_eq_true] at h; rw [Nat.eq_of_beq_eq_true h.1, Nat.eq_of_beq_eq_true h.2]
  · simp only [Bool.and_eq_true, decide_eq_true_eq] at h; rw [Nat.eq_of_beq_eq_true h.1.1, Nat.eq_of_beq_eq_true h.1.2, h.2]
  · cases h
theorem acsEq_eq : ∀ {l m : List AC}, acsEq l m = true → l = m
  | [], [], _ => rfl
  | a :: l, b :: m, h => by
    simp only [acsEq, Bool.and_eq_true] at h
    rw [acEq_eq h.1, acsEq_eq h.2]
  | [], _ :: _, h => by simp [acsEq] at h
  | _ :: _, [], h => by simp [acsEq] at h
theorem abEq_eq {a b : AB} (h : abEq a b = true) : a = b := by
  obtain ⟨e, r, cs⟩ := a
  obtain ⟨e', r', cs'⟩ := b
  simp only [abEq, Bool.and_eq_true, decide_eq_true_eq] at h
  obtain ⟨⟨h1, h2⟩, h3⟩ := h
  rw [Nat.eq_of_beq_eq_true h1, h2, acsEq_eq h3]

/-- The blocks that are kept for early reading. -/
def kept (l : List (Nat × AB)) (i : Nat) : Option AB := (l.find? fun x => Nat.beq x.1 i).map (·.2)
def stillB (l : List (Nat × AB)) (h : AH) : Bool := l.all fun x => match h.get x.1 with | some b => abEq b x.2 | none => false

/-- The next place that may be taken early: with what it yields. -/
def early (P : Program) (look : Nat → Option AB) (ops : Array Oper) (listed : Array Bool) (σ : AF) : List Nat → Option (Nat × Oper × AV)
  | [] => none
  | i :: rs => match ops[i]? with
    | some o => if Region.free .any ops listed i then
        match awanted ops σ o with
        | some true => match apure P look (aev σ) o.op with
          | some v => some (i, o, v)
          | none => early P look ops listed σ rs
        | some false => some (i, o, AV.un)
        | none => early P look ops listed σ rs
      else early P look ops listed σ rs
    | none => none

/-- The blocks that are read early. -/
def areads (P : Program) (h : AH) (ops : Array Oper) : Nat → Array Bool → AF → List (Nat × AB)
  | 0, _, _ => []
  | n + 1, listed, σ => match early P h.get ops listed σ (Region.ready .any ops listed) with
    | some (i, o, v) =>
      let rest := areads P h ops n (listed.setIfInBounds i true) (σ.upd o.dst v)
      match o.op with
      | .load _ x => match aev σ x with
        | .c (.ptr b _) => match h.get b with
          | some B => (b, B) :: rest
          | none => rest
        | _ => rest
      | _ => rest
    | none => []

def adraw (P : Program) (call : Call') (R : List (Nat × AB)) (ops : Array Oper) : Nat → Array Bool → AF → AH → Option (List (Nat × Bool) × AF × AH)
  | 0, listed, σ, h => some ([], σ, h)
  | n + 1, listed, σ, h =>
    match Region.ready .any ops listed with
    | [] => some ([], σ, h)
    | rs =>
      match early P (kept R) ops listed σ rs with
      | some (i, o, v) => (adraw P call R ops n (listed.setIfInBounds i true) (σ.upd o.dst v) h).map fun x => ((i, true) :: x.1, x.2)
      | none =>
        match rs with
        | [i] => match ops[i]? with
          | some o => match awanted ops σ o with
            | some true => match astep P call h σ o.op with
              | some (v, h') => if stillB R h' then (adraw P call R ops n (listed.setIfInBounds i true) (σ.upd o.dst v) h').map fun x => ((i, false) :: x.1, x.2) else none
              | none => none
            | _ => none
          | none => none
        | _ => none

def adrawn (P : Program) (call : Call') (ops : Array Oper) (σ : AF) (h : AH) : Option (AF × AH) :=
  let l0 := Array.replicate ops.size false
  let R := areads P h ops ops.size l0 σ
  match adraw P call R ops ops.size l0 σ h with
  | some (l, σ', h') => if Region.noSelect ops && schedB ops l0 l && Nat.ble l.length ops.size && stillB R h then some (σ', h') else none
  | none => none

def aiter (step : AF → AH → Option (Exit × AF × AH)) : Nat → AF → AH → Option (Exit × AF × AH)
  | 0, _, _ => none
  | n + 1, σ, h => match step σ h with
    | some (.normal, σ', h') => aiter step n σ' h'
    | r => r

def acode (P : Program) (call : Call') (fuel : Nat) : Code → AF → AH → Option (Exit × AF × AH)
  | .skip, σ, h => some (.normal, σ, h)
  | .ret, σ, h => some (.ret, σ, h)
  | .exit id, σ, h => some (.exit id, σ, h)
  | .seq a b, σ, h => match acode P call fuel a σ h with
    | some (.normal, σ', h') => acode P call fuel b σ' h'
    | r => r
  | .cond c a b, σ, h => match aev σ c with
    | .c (.lit (.bool true)) => acode P call fuel a σ h
    | .c (.lit (.bool false)) => acode P call fuel b σ h
    | _ => none
  | .block id c, σ, h => match acode P call fuel c σ h with
    | some (.exit i, σ', h') => if Nat.beq i id then some (.normal, σ', h') else some (.exit i, σ', h')
    | r => r
  | .loop c, σ, h => aiter (fun σ h => acode P call fuel c σ h) fuel σ h
  | .region _ ops false, σ, h => (aregion P call ops ops.toList σ h).map fun x => (.normal, x.1, x.2)
  | .region _ ops true, σ, h => (adrawn P call ops σ h).map fun x => (.normal, x.1, x.2)
  | _, _, _ => none

def ares (P : Program) (h : AH) (fn : Func) (σ : AF) : Option AV :=
  match fn.results.toList with
  | [] => some (.c (.lit (.tuple #[])))
  | [.tmp t] => some (σ.get t)
  | [.cell t ty] => apure P h.get (aev σ) (.load ty (.tmp t))
  | _ => none

def acall (P : Program) : Nat → Call'
  | 0 => fun _ _ _ => none
  | n + 1 => fun f args h =>
    match P.funcs[f]? with
    | some fn => match fn.body with
      | some c =>
        if fits fn.ntmps c && Nat.ble args.length fn.ntmps && !(fn.name == "runtime.NumGoroutine") then
          match acode P (acall P n) 300 c args h with
          | some (.normal, σ, h') => (ares P h' fn σ).map fun v => (v, h')
          | some (.ret, σ, h') => (ares P h' fn σ).map fun v => (v, h')
          | _ => none
        else none
      | none => none
    | none => none

end Go.Kx

/- That the machine does what the running over plain data says. -/
namespace Go.Kx
open Go.RowKit
set_option linter.unusedSimpArgs false
set_option linter.unusedVariables false

/-- What is asked of the calls. -/
def CallOk (P : Program) (call : Call') : Prop := ∀ (f : FuncId) (args : List AV) (h h' : AH) (r : AV), call f args h = some (r, h') →
  Callable P f ∧ ∀ (w0 w : World) (E : En) (vs : List Value), Hp w0 E h w → All2 (AV.is E) args vs → Calls P f vs.toArray w fun e w' => ∃ v, e = .returned v ∧ Out w0 E h' r v w'

theorem asFun_eq {op : Op} {f : FuncId} {args : List Operand} (h : astep.asFun op = some (f, args)) : ∃ cargs ats, op = .call ⟨.value (.func f), cargs, ats⟩ ∧ args = cargs.toList := by
  cases op with
  | call c =>
    obtain ⟨callee, cargs, ats⟩ := c
    cases callee with
    | value q =>
      cases q with
      | func g => simp only [astep.asFun, Option.some.injEq, Prod.mk.injEq] at h; obtain ⟨rfl, rfl⟩ := h; exact ⟨cargs, ats, rfl, rfl⟩
      | _ => simp [astep.asFun] at h
    | _ => simp [astep.asFun] at h
  | _ => simp [astep.asFun] at h

theorem astep_sound {P : Program} {call : Call'} (hcall : CallOk P call) {E : En} {h h' : AH} {w0 w : World} {σ : AF} {τ : Fm} (hf : FrIs E σ τ) (k : Hp w0 E h w) {o : Oper} {r : AV} (ha : astep P call h σ o.op = some (r, h')) :
    OpK P (ev τ) o w fun u w' => Out w0 E h' r u w' := by
  obtain ⟨d, op, ty, pos, af, g⟩ := o
  unfold astep at ha
  split at ha
  · rename_i f args hfn
    obtain ⟨hcl, hk⟩ := hcall f _ h h' r ha
    obtain ⟨cargs, ats, rfl, rfl⟩ := asFun_eq hfn
    refine OpK.call hcl ?_ rfl
    have := hk w0 w E (cargs.toList.map (ev τ)) k (map_is (fun x => aev_is hf x) _)
    have he : cargs.map (ev τ) = (cargs.toList.map (ev τ)).toArray := by apply Array.ext'; simp
    rw [he]
    exact this
  · exact aop_sound (fun x => aev_is hf x) (fun _ => rfl) k ha

theorem awanted_sound {E : En} {σ : AF} {τ : Fm} (hf : FrIs E σ τ) {ops : Array Oper} {o : Oper} {b : Bool} (h : awanted ops σ o = some b) : wantedB o ops τ = b := by
  unfold awanted at h
  unfold wantedB
  split at h
  · rename_i hg; rw [hg]; cases h; rfl
  · rename_i j c hg
    rw [hg]
    simp only
    split at h
    · rename_i d hd
      split at h
      · rename_i v hv
        cases h
        have := is_lit (hv ▸ hf d)
        unfold yv
        rw [hd]
        simp only [this]
        unfold isB
        cases v <;> simp
      · cases h
    · rename_i hd
      cases h
      unfold yv
      rw [hd]
      simp

theorem upd_is {E : En} {σ : AF} {τ : Fm} (k : FrIs E σ τ) {v : AV} {u : Value} (hv : v.is E u) (d : Option Nat) : FrIs E (σ.upd d v) (upd τ d u) := k.upd hv d

theorem aregion_sound {P : Program} {call : Call'} (hcall : CallOk P call) {ops : Array Oper} : ∀ (l : List Oper) {E : En} {h h' : AH} {w0 w : World} {σ σ' : AF} {τ : Fm}, FrIs E σ τ → Hp w0 E h w → aregion P call ops l σ h = some (σ', h') →
    RW P ops l τ w fun τ' w' => ∃ E', Le E E' ∧ FrIs E' σ' τ' ∧ Hp w0 E' h' w' := by
  intro l
  induction l with
  | nil => intro E h h' w0 w σ σ' τ hf k ha; cases ha; exact ⟨E, Le.refl E, hf, k⟩
  | cons o l ih =>
    intro E h h' w0 w σ σ' τ hf k ha
    unfold aregion at ha
    unfold RW
    split at ha
    · rename_i hw
      rw [awanted_sound hf hw, if_pos rfl]
      split at ha
      · rename_i v h1 hs
        refine After.mono (astep_sound hcall hf k hs) fun u w' ⟨E', hE, hv, k'⟩ => ?_
        refine (ih (upd_is (hf.le hE) hv o.dst) k' ha).mono l fun τ' w'' ⟨E'', hE', hf', k''⟩ => ⟨E'', hE.trans hE', hf', k''⟩
      · cases ha
    · rename_i hw
      rw [awanted_sound hf hw, if_neg (by simp)]
      exact ih (upd_is hf (AV.un_is E) o.dst) k ha
    · cases ha

theorem early_sound {P : Program} {look : Nat → Option AB} {ops : Array Oper} {listed : Array Bool} {σ : AF} : ∀ {rs : List Nat} {i : Nat} {o : Oper} {v : AV}, early P look ops listed σ rs = some (i, o, v) →
    ops[i]? = some o ∧ ((awanted ops σ o = some true ∧ apure P look (aev σ) o.op = some v) ∨ (awanted ops σ o = some false ∧ v = AV.un)) := by
  intro rs
  induction rs with
  | nil => intro i o v h; cases h
  | cons j rs ih =>
    intro i o v h
    unfold early at h
    split at h
    · rename_i o' ho
      split at h
      · split at h
        · rename_i hw
          split at h
          · rename_i v' hv
            cases h
            exact ⟨ho, .inl ⟨hw, hv⟩⟩
          · exact ih h
        · rename_i hw
          cases h
          exact ⟨ho, .inr ⟨hw, rfl⟩⟩
        · exact ih h
      · exact ih h
    · cases h

theorem rd_kept {w0 : World} {E E' : En} {h0 h : AH} {w1 w : World} {R : List (Nat × AB)} (k0 : Rd E (kept R) w1) (hE : Le E E') (k : Hp w0 E' h w) (hs : stillB R h = true) : Rd E (kept R) w := by
  intro i b hb
  obtain ⟨p, hp, vs0, tl0, h1, _, _⟩ := k0 i b hb
  unfold kept at hb
  obtain ⟨x, hx, rfl⟩ := Option.map_eq_some_iff.1 hb
  have hm := List.mem_of_find?_eq_some hx
  have hxi : x.1 = i := Nat.eq_of_beq_eq_true (by have := List.find?_some hx; simpa using this)
  have := List.all_eq_true.1 hs x hm
  split at this
  · rename_i b' hb'
    have := abEq_eq this
    subst this
    rw [hxi] at hb'
    obtain ⟨q, hq, vs, tl, k1, k2, k3⟩ := k.rd i _ hb'
    rw [hE i p hp] at hq
    cases hq
    have hv : vs = vs0 := all2_fun (R := AC.is E') (fun _ _ _ h k => AC.is_fun h k) k1 (h1.imp fun _ _ h => AC.is.le hE h)
    subst hv
    exact ⟨p, hp, vs, tl, h1, k2, k3⟩
  · cases this

theorem rd_le {E E' : En} {look : Nat → Option AB} {w : World} (k : Rd E look w) (hE : Le E E') : Rd E' look w := by
  intro i b hb
  obtain ⟨p, hp, hB⟩ := k i b hb
  exact ⟨p, hE _ _ hp, hB.keep hE rfl⟩

theorem adraw_sound {P : Program} {call : Call'} (hcall : CallOk P call) {R : List (Nat × AB)} {ops : Array Oper} {E0 : En} : ∀ (n : Nat) {listed : Array Bool} {E : En} {h h' : AH} {w0 w : World} {σ σ' : AF} {τ : Fm} {l : List (Nat × Bool)}, Le E0 E → Rd E0 (kept R) w →
    FrIs E σ τ → Hp w0 E h w → adraw P call R ops n listed σ h = some (l, σ', h') → HW P ops (Rd E0 (kept R)) l τ w fun τ' w' => ∃ E', Le E E' ∧ FrIs E' σ' τ' ∧ Hp w0 E' h' w' := by
  intro n
  induction n with
  | zero => intro listed E h h' w0 w σ σ' τ l hE hR hf k ha; cases ha; exact ⟨E, Le.refl E, hf, k⟩
  | succ n ih =>
    intro listed E h h' w0 w σ σ' τ l hE hR hf k ha
    unfold adraw at ha
    split at ha
    · cases ha; exact ⟨E, Le.refl E, hf, k⟩
    · rename_i rs _
      split at ha
      · rename_i i o v he
        obtain ⟨ho, hwp⟩ := early_sound he
        obtain ⟨x, hx, hxe⟩ := Option.map_eq_some_iff.1 ha
        obtain ⟨l', σ1, h1⟩ := x
        simp only [Prod.mk.injEq] at hxe
        obtain ⟨rfl, rfl, rfl⟩ := hxe
        rcases hwp with ⟨hw, hp⟩ | ⟨hw, rfl⟩
        · obtain ⟨u, hu, hy⟩ := apure_yi (fun x => aev_is hf x) (fun _ => rfl) (rd_le hR hE) hp
          refine HW.early ho (awanted_sound hf hw) (v := u) (fun w' hw' => hy w' (rd_le hw' hE)) ?_
          exact ih hE hR (upd_is hf hu o.dst) k hx
        · refine HW.none_ ho (awanted_sound hf hw) ?_
          exact ih hE hR (upd_is hf (AV.un_is E) o.dst) k hx
      · split at ha
        · rename_i i
          split at ha
          · rename_i o ho
            split at ha
            · rename_i hw
              split at ha
              · rename_i v h1 hs
                split at ha
                · rename_i hst
                  obtain ⟨x, hx, hxe⟩ := Option.map_eq_some_iff.1 ha
                  obtain ⟨l', σ1, h2⟩ := x
                  simp only [Prod.mk.injEq] at hxe
                  obtain ⟨rfl, rfl, rfl⟩ := hxe
                  refine HW.next ho (awanted_sound hf hw) (After.mono (astep_sound hcall hf k hs) fun u w' ⟨E', hE', hv, k'⟩ => ?_)
                  have hR' := rd_kept (h0 := h) hR (hE.trans hE') k' hst
                  refine ⟨hR', ?_⟩
                  have := ih (hE.trans hE') hR' (upd_is (hf.le hE') hv o.dst) k' hx
                  exact HW.mono this fun τ' w'' ⟨E'', hE'', hf', k''⟩ => ⟨E'', hE'.trans hE'', hf', k''⟩
                · cases ha
              · cases ha
            · cases ha
          · cases ha
        · cases ha

theorem rd_first {E : En} {h : AH} {w0 w : World} {R : List (Nat × AB)} (k : Hp w0 E h w) (hs : stillB R h = true) : Rd E (kept R) w := by
  intro i b hb
  unfold kept at hb
  obtain ⟨x, hx, rfl⟩ := Option.map_eq_some_iff.1 hb
  have hm := List.mem_of_find?_eq_some hx
  have hxi : x.1 = i := Nat.eq_of_beq_eq_true (by have := List.find?_some hx; simpa using this)
  have := List.all_eq_true.1 hs x hm
  split at this
  · rename_i b' hb'
    have := abEq_eq this
    subst this
    rw [hxi] at hb'
    exact k.rd i _ hb'
  · cases this

theorem aiter_sound {P : Program} {n : Nat} {c : Code} {step : AF → AH → Option (Exit × AF × AH)} {w0 : World} (hstep : ∀ {E : En} {h h' : AH} {w : World} {σ σ' : AF} {τ : Fm} {e : Exit}, FrIs E σ τ → Hp w0 E h w → step σ h = some (e, σ', h') →
      CW P n c τ w fun e' τ' w' => e' = e ∧ ∃ E', Le E E' ∧ FrIs E' σ' τ' ∧ Hp w0 E' h' w') {E0 : En} {fuel : Nat} {h h' : AH} {w : World} {σ σ' : AF} {τ : Fm} {e : Exit} (hf : FrIs E0 σ τ) (k : Hp w0 E0 h w) (ha : aiter step fuel σ h = some (e, σ', h')) :
    CW P n (.loop c) τ w fun e' τ' w' => e' = e ∧ ∃ E', Le E0 E' ∧ FrIs E' σ' τ' ∧ Hp w0 E' h' w' := by
  refine CW.loop (fun m τ w => ∃ E σ h, Le E0 E ∧ FrIs E σ τ ∧ Hp w0 E h w ∧ aiter step m σ h = some (e, σ', h')) fuel ⟨E0, σ, h, Le.refl E0, hf, k, ha⟩ fun m τ w ⟨E, σ, h, hE, hf, k, ha⟩ => ?_
  cases m with
  | zero => cases ha
  | succ m =>
    unfold aiter at ha
    split at ha
    · rename_i σ1 h1 hs
      refine CW.mono (hstep hf k hs) fun e' τ' w' ⟨he, E', hE', hf', k'⟩ => ?_
      subst he
      exact ⟨m, Nat.lt_succ_self m, E', σ1, h1, hE.trans hE', hf', k', ha⟩
    · rename_i r hr
      refine CW.mono (hstep hf k ha) fun e' τ' w' ⟨he, E', hE', hf', k'⟩ => ?_
      subst he
      cases e' with
      | normal => exact absurd ha (hr _ _)
      | _ => exact ⟨rfl, E', hE.trans hE', hf', k'⟩

theorem acode_sound {P : Program} {call : Call'} (hm : P.follows .mixedOrders = true) (hcall : CallOk P call) {fuel n : Nat} {w0 : World} : ∀ (c : Code) {E : En} {h h' : AH} {w : World} {σ σ' : AF} {τ : Fm} {e : Exit}, FrIs E σ τ → Hp w0 E h w →
    acode P call fuel c σ h = some (e, σ', h') → CW P n c τ w fun e' τ' w' => e' = e ∧ ∃ E', Le E E' ∧ FrIs E' σ' τ' ∧ Hp w0 E' h' w' := by
  intro c
  induction c with
  | skip => intro E h h' w σ σ' τ e hf k ha; simp only [acode] at ha; cases ha; exact CW.skip ⟨rfl, E, Le.refl E, hf, k⟩
  | ret => intro E h h' w σ σ' τ e hf k ha; simp only [acode] at ha; cases ha; exact CW.ret ⟨rfl, E, Le.refl E, hf, k⟩
  | exit id => intro E h h' w σ σ' τ e hf k ha; simp only [acode] at ha; cases ha; exact CW.exit ⟨rfl, E, Le.refl E, hf, k⟩
  | seq a b iha ihb =>
    intro E h h' w σ σ' τ e hf k ha
    simp only [acode] at ha
    split at ha
    · rename_i σ1 h1 hs
      refine CW.seq (CW.mono (iha hf k hs) fun e' τ' w' ⟨he, E', hE', hf', k'⟩ => ?_)
      subst he
      exact CW.mono (ihb hf' k' ha) fun e'' τ'' w'' ⟨he, E'', hE'', hf'', k''⟩ => ⟨he, E'', hE'.trans hE'', hf'', k''⟩
    · rename_i r hr
      refine CW.seq (CW.mono (iha hf k ha) fun e' τ' w' ⟨he, hrest⟩ => ?_)
      subst he
      cases e' with
      | normal => exact absurd ha (hr _ _)
      | _ => exact ⟨rfl, hrest⟩
  | cond x a b iha ihb =>
    intro E h h' w σ σ' τ e hf k ha
    simp only [acode] at ha
    split at ha
    · rename_i hx
      exact CW.cond (t := true) (is_lit (hx ▸ aev_is hf x)) (iha hf k ha)
    · rename_i hx
      exact CW.cond (t := false) (is_lit (hx ▸ aev_is hf x)) (ihb hf k ha)
    · cases ha
  | block id a iha =>
    intro E h h' w σ σ' τ e hf k ha
    simp only [acode] at ha
    split at ha
    · rename_i i σ1 h1 hs
      refine CW.block (CW.mono (iha hf k hs) fun e' τ' w' ⟨he, hrest⟩ => ?_)
      subst he
      simp only [InBlock]
      split at ha
      · rename_i hi
        cases ha
        rw [if_pos (Nat.eq_of_beq_eq_true hi)]
        exact ⟨rfl, hrest⟩
      · rename_i hi
        cases ha
        rw [if_neg (fun h => hi (by rw [h]; simp))]
        exact ⟨rfl, hrest⟩
    · rename_i r hr
      refine CW.block (CW.mono (iha hf k ha) fun e' τ' w' ⟨he, hrest⟩ => ?_)
      subst he
      cases e' with
      | exit i => exact absurd ha (hr _ _ _)
      | _ => exact ⟨rfl, hrest⟩
  | loop a iha =>
    intro E h h' w σ σ' τ e hf k ha
    simp only [acode] at ha
    exact aiter_sound (fun hf k hs => iha hf k hs) hf k ha
  | region id ops b =>
    intro E h h' w σ σ' τ e hf k ha
    cases b with
    | false =>
      simp only [acode] at ha
      obtain ⟨x, hx, he⟩ := Option.map_eq_some_iff.1 ha
      obtain ⟨σ1, h1⟩ := x
      simp only [Prod.mk.injEq] at he
      obtain ⟨rfl, rfl, rfl⟩ := he
      exact CW.region (RW.mono _ (aregion_sound hcall ops.toList hf k hx) fun τ' w' h => ⟨rfl, h⟩)
    | true =>
      simp only [acode] at ha
      obtain ⟨x, hx, he⟩ := Option.map_eq_some_iff.1 ha
      obtain ⟨σ1, h1⟩ := x
      simp only [Prod.mk.injEq] at he
      obtain ⟨rfl, rfl, rfl⟩ := he
      unfold adrawn at hx
      simp only at hx
      split at hx
      · rename_i l σ2 h2 hd
        split at hx
        · rename_i hc
          cases hx
          simp only [Bool.and_eq_true] at hc
          have hR := rd_first k hc.2
          refine CW.regionD hm (Rd E (kept (areads P h ops ops.size (Array.replicate ops.size false) σ))) l (by simp only [Bool.and_eq_true]; exact ⟨⟨hc.1.1.1, hc.1.1.2⟩, hc.1.2⟩) (rd_first k.drew hc.2) ?_
          exact HW.mono (adraw_sound hcall ops.size (Le.refl E) (rd_first k.drew hc.2) hf k.drew hd) fun τ' w' h => ⟨rfl, h⟩
        · cases hx
      · cases hx
  | _ => intro E h h' w σ σ' τ e hf k ha; simp only [acode] at ha; cases ha


theorem Calls.of_CW2 {P : Program} {f : FuncId} {fn : Func} {c : Code} {args : Array Value} {w : World} {R : Value → World → Prop}
    (hf : P.funcs[f]? = some fn) (hb : fn.body = some c) (hs : fits fn.ntmps c = true) (hn : args.size ≤ fn.ntmps)
    (h : CW P fn.ntmps c (frame0 args) w fun e σ w' => (e = .normal ∨ e = .ret) ∧ ∃ v, (∀ a, Fr fn.ntmps a σ → (results fn a.tmps).run P w' = .ok v w') ∧ R v w') : Calls P f args w fun e w' => ∃ v, e = .returned v ∧ R v w' := by
  refine calls_of_wp hf hb (wp_mono (h hs _ ⟨by simp; omega, rfl, fun t => ?_⟩) fun e a w' ⟨σ', hfr, hQ⟩ => ?_)
  · simp only [frame0, Array.getD_eq_getD_getElem?]
    by_cases ht : t < args.size
    · rw [Array.getElem?_append_left ht]
    · rw [Array.getElem?_append_right (by omega), Array.getElem?_eq_none (xs := args) (by omega)]
      by_cases hr : t - args.size < fn.ntmps - args.size
      · rw [Array.getElem?_replicate, if_pos hr]; rfl
      · rw [Array.getElem?_replicate, if_neg hr]
  · obtain ⟨he, v, hv, hR⟩ := hQ
    rcases he with rfl | rfl
    · exact ⟨hfr.defers, v, hv a hfr, v, rfl, hR⟩
    · exact ⟨hfr.defers, v, hv a hfr, v, rfl, hR⟩

theorem ares_sound {P : Program} {E : En} {h : AH} {w0 w : World} {fn : Func} {σ : AF} {τ : Fm} {r : AV} (hf : FrIs E σ τ) (k : Hp w0 E h w) (hr : ares P h fn σ = some r) :
    ∃ v, (∀ n a, Fr n a τ → (results fn a.tmps).run P w = .ok v w) ∧ r.is E v := by
  obtain ⟨rs, hrs⟩ : ∃ l : List ResultVar, fn.results = l.toArray := ⟨fn.results.toList, by simp⟩
  unfold ares at hr
  rw [hrs] at hr
  simp only at hr
  split at hr
  · cases hr
    exact ⟨_, fun n a ha => by simp [results, hrs], rfl⟩
  · cases hr
    rename_i t
    exact ⟨τ t, fun n a ha => by simp [results, hrs, ← ha.at_], hf t⟩
  · rename_i t ty
    obtain ⟨u, hu, hrun⟩ := apure_run (o := ⟨none, .load ty (.tmp t), 0, "", #[], none⟩) (fun x => aev_is hf x) (fun _ => rfl) k.rd hr
    refine ⟨u, fun n a ha => ?_, hu⟩
    have hx : ∃ b o, σ.get t = .c (.ptr b o) := by
      simp only [apure, aev] at hr
      split at hr
      · rename_i b o hx; exact ⟨b, o, hx⟩
      · cases hr
    obtain ⟨b, o, hx⟩ := hx
    obtain ⟨p, hp, hv⟩ := is_ptr (hx ▸ hf t)
    have hat := ha.at_ t
    simp only [execOp, ev_tmp, hv, Instr.loadAt, Instr.sureAddr, Sem.run_bind, Sem.run_pure, Result.andThen_ok] at hrun
    have hl : (loadVar ty ⟨p.1, o, none⟩).run P w = .ok u w := by
      generalize (loadVar ty ⟨p.1, o, none⟩).run P w = q at hrun
      cases q with
      | ok z w' => simp only [Result.andThen_ok] at hrun; cases hrun; rfl
      | halt z w' => cases hrun
    rw [Array.getD_eq_getD_getElem?] at hat
    simp [results, hrs, hat, hv, asAddr, hl]
  · cases hr

theorem acall_sound {P : Program} (hm : P.follows .mixedOrders = true) : ∀ n, CallOk P (acall P n)
  | 0 => fun f args h h' r ha => by cases ha
  | n + 1 => by
    have ih := acall_sound hm n
    intro f args h h' r ha
    simp only [acall] at ha
    split at ha
    · rename_i fn hfn
      split at ha
      · rename_i c hc
        split at ha
        · rename_i hcond
          simp only [Bool.and_eq_true, Bool.not_eq_true'] at hcond
          obtain ⟨⟨hfit, hlen⟩, hname⟩ := hcond
          have hlen := Nat.le_of_ble_eq_true hlen
          refine ⟨⟨fn, hfn, hname, by rw [hc]; rfl⟩, fun w0 w E vs k hvs => ?_⟩
          have hf : FrIs E args (frame0 vs.toArray) := by
            intro t
            unfold AF.get frame0
            by_cases ht : t < args.length
            · obtain ⟨x, hx⟩ : ∃ x, args[t]? = some x := ⟨args[t], List.getElem?_eq_getElem ht⟩
              obtain ⟨v, hv, hr⟩ := hvs.get hx
              simp [List.getD_eq_getElem?_getD, hx, Array.getD_eq_getD_getElem?, hv]
              exact hr
            · have hl := hvs.len
              simp [List.getD_eq_getElem?_getD, List.getElem?_eq_none (Nat.le_of_not_lt ht), Array.getD_eq_getD_getElem?, List.getElem?_eq_none (show vs.length ≤ t by omega)]
              exact AV.un_is E
          have hsz : vs.toArray.size ≤ fn.ntmps := by have := hvs.len; simp; omega
          have fin : ∀ {e : Exit} {σ : AF} {h1 : AH}, acode P (acall P n) 300 c args h = some (e, σ, h1) → (e = .normal ∨ e = .ret) → (ares P h1 fn σ).map (fun v => (v, h1)) = some (r, h') →
              Calls P f vs.toArray w fun e w' => ∃ v, e = .returned v ∧ Out w0 E h' r v w' := by
            intro e σ h1 hcode he hres
            obtain ⟨x, hx, hxe⟩ := Option.map_eq_some_iff.1 hres
            cases hxe
            refine Calls.of_CW2 hfn hc hfit hsz (CW.mono (acode_sound hm ih c hf k hcode) fun e' τ' w' ⟨he', E', hE', hf', k'⟩ => ⟨he' ▸ he, ?_⟩)
            obtain ⟨v, hv, hr⟩ := ares_sound hf' k' hx
            exact ⟨v, hv fn.ntmps, E', hE', hr, k'⟩
          split at ha
          · rename_i σ h1 hcode; exact fin hcode (.inl rfl) ha
          · rename_i σ h1 hcode; exact fin hcode (.inr rfl) ha
          · cases ha
        · cases ha
      · cases ha
    · cases ha

/-- What is run over plain data, with no block at the start, is what the machine does from whatever world. -/
theorem runs {P : Program} (hm : P.follows .mixedOrders = true) {n : Nat} {f : FuncId} {args : List Value} {v : Value} {m : Nat} {l : List (Option AB)} (ha : acall P n f (args.map fun x => .c (.lit x)) ⟨0, []⟩ = some (.c (.lit v), ⟨m, l⟩)) (w : World) :
    Calls P f args.toArray w fun e w' => ∃ r, e = .returned r ∧ r = v ∧ Below w.heap.size w w' := by
  obtain ⟨_, hk⟩ := acall_sound hm n f _ _ _ _ ha
  refine (hk w w [] args (Hp.start w) ?_).mono fun e w' ⟨r, he, E', hE', hr, k'⟩ => ⟨r, he, hr, ⟨k'.os, k'.tape, k'.output, k'.size, k'.old⟩⟩
  clear ha hk
  induction args with
  | nil => exact .nil
  | cons x l ih => exact .cons rfl ih


/-- 'version(n, most)' taken from a table of its own: of an input that leaves r, r. -/
def vcall (P : Program) (ver : FuncId) (n : Nat) : Call' := fun f args h =>
  if Nat.beq f ver then
    match args with
    | [.c (.hole m r), .c (.lit (.int .i64 (.ofNat k)))] => if Nat.beq m (k + 1) && Nat.blt k 1000 then some (.c (.lit (.int .i64 (r : Int))), h) else none
    | _ => none
  else acall P n f args h

/-- What 'version' does. -/
def VerOk (P : Program) (ver : FuncId) : Prop := Callable P ver ∧ ∀ (w : World) (n k : Nat), n < 256 → k < 1000 → Calls P ver #[.int .u8 (n : Int), .int .i64 (k : Int)] w fun e w' => ∃ v, e = .returned v ∧ v = .int .i64 ((n % (k + 1) : Nat) : Int) ∧ w' = w

theorem vcall_ok {P : Program} (hm : P.follows .mixedOrders = true) {ver : FuncId} (hv : VerOk P ver) (n : Nat) : CallOk P (vcall P ver n) := by
  intro f args h h' r ha
  unfold vcall at ha
  split at ha
  · rename_i hf
    have hf := Nat.eq_of_beq_eq_true hf
    subst hf
    split at ha
    · rename_i m q k
      split at ha
      · rename_i hmk
        simp only [Bool.and_eq_true] at hmk
        have hk1 : k < 1000 := by simpa [Nat.blt_eq] using hmk.2
        have hmk := Nat.eq_of_beq_eq_true hmk.1
        cases ha
        refine ⟨hv.1, fun w0 w E vs kk hvs => ?_⟩
        cases hvs with | cons h1 hvs => cases hvs with | cons h2 hvs => cases hvs with | nil =>
        obtain ⟨p, hp, hlt, hr, rfl⟩ := h1
        obtain rfl := is_lit h2
        refine (hv.2 w p.1 k hlt hk1).mono fun e w' ⟨v, he, hvv, hw⟩ => ⟨v, he, ?_⟩
        subst hw
        refine Out.same kk ?_
        rw [hvv, ← hmk, hr]
        rfl
      · cases ha
    · cases ha
  · exact acall_sound hm n f args h h' r ha

def lawB (P : Program) (ver : FuncId) (c : Code) (fn : Func) (m r : Nat) : Bool :=
  match acode P (vcall P ver 60) 300 c [.c (.hole m r)] ⟨1, [none]⟩ with
  | some (.ret, σ, h) => match ares P h fn σ with
    | some (.c (.lit (.bool true))) => true
    | _ => false
  | _ => false

/-- A law of one number of eight bits that looks at it by 'version' alone: checked once for each rest. -/
theorem law_true {P : Program} (hm : P.follows .mixedOrders = true) {ver : FuncId} (hv : VerOk P ver) {f : FuncId} {fn : Func} {c : Code} (hf : P.funcs[f]? = some fn) (hc : fn.body = some c) (hfit : fits fn.ntmps c = true) (h1 : 1 ≤ fn.ntmps) {m : Nat} (hm0 : 0 < m)
    (h : ∀ r, r < m → lawB P ver c fn m r = true) (w : World) (n : Nat) (hn : n < 256) : Calls P f #[.int .u8 (n : Int)] w fun e w' => ∃ v, e = .returned v ∧ v = .bool true ∧ Below w.heap.size w w' := by
  have hb := h (n % m) (Nat.mod_lt _ hm0)
  unfold lawB at hb
  split at hb
  · rename_i σ h' hcode
    split at hb
    · rename_i hres
      have hfr : FrIs [(n, 0)] [.c (.hole m (n % m))] (frame0 #[.int .u8 (n : Int)]) := by
        intro t
        cases t with
        | zero => exact ⟨(n, 0), rfl, hn, rfl, rfl⟩
        | succ t => simp [AF.get, frame0]; exact AV.un_is _
      refine Calls.of_CW2 hf hc hfit (by simpa using h1) (CW.mono (acode_sound hm (vcall_ok hm hv 60) c hfr (Hp.start1 w n) hcode) fun e' τ' w' ⟨he', E', hE', hf', k'⟩ => ⟨.inr he', ?_⟩)
      obtain ⟨v, hv', hr⟩ := ares_sound hf' k' hres
      exact ⟨v, hv' fn.ntmps, is_lit hr, ⟨k'.os, k'.tape, k'.output, k'.size, k'.old⟩⟩
    · cases hb
  · cases hb

end Go.Kx

/- The fields of a message in memory; read out of a run over plain data. -/
namespace Go.Kx
open Go.RowKit
set_option linter.unusedSimpArgs false
set_option linter.unusedVariables false

def fldCells (f : Fld) (vs : Value) : List Value := [.int .i64 f.kind, .int .i64 f.lo, .int .i64 f.hi, .int .i64 f.null, .int .i64 f.tag, .int .i64 f.dflt, .int .i64 f.of, vs]
/-- A slice of fields; parts within parts no deeper than d; what holds them lies below B. -/
def FldsIs (w : World) (B : Nat) : Nat → List Fld → Value → Prop
  | 0, flds, v => flds = [] ∧ v = .slice none 0 0
  | d + 1, flds, v => (flds = [] ∧ v = .slice none 0 0) ∨ ∃ g c, v = .slice (some ⟨g, 0, none⟩) flds.length c ∧ flds.length ≤ c ∧ c < 1000000 ∧ g < B ∧
      ∀ (i : Nat) (f : Fld), flds[i]? = some f → ∃ vs, At w g (i * 8) (fldCells f vs) ∧ FldsIs w B d f.sub vs

theorem FldsIs.keep {w w' : World} {B : Nat} (hk : ∀ k, k < B → w'.heap[k]? = w.heap[k]?) : ∀ (d : Nat) {flds : List Fld} {v : Value}, FldsIs w B d flds v → FldsIs w' B d flds v
  | 0, _, _, h => h
  | d + 1, flds, v, h => by
    rcases h with h | ⟨g, c, h1, h2, h3, h4, h5⟩
    · exact .inl h
    · refine .inr ⟨g, c, h1, h2, h3, h4, fun i f hf => ?_⟩
      obtain ⟨vs, e1, e2⟩ := h5 i f hf
      exact ⟨vs, fun j x hx => (cell_keep (w := w) (w' := w') (hk _ h4)).trans (e1 j x hx), FldsIs.keep hk d e2⟩
theorem FldsIs.succ {w : World} {B : Nat} : ∀ (d : Nat) {flds : List Fld} {v : Value}, FldsIs w B d flds v → FldsIs w B (d + 1) flds v
  | 0, flds, v, h => .inl h
  | d + 1, flds, v, h => by
    rcases h with h | ⟨g, c, h1, h2, h3, h4, h5⟩
    · exact .inl h
    · refine .inr ⟨g, c, h1, h2, h3, h4, fun i f hf => ?_⟩
      obtain ⟨vs, e1, e2⟩ := h5 i f hf
      exact ⟨vs, e1, FldsIs.succ d e2⟩

def rdFlds (look : Nat → Option AB) : Nat → AC → Option (List Fld)
  | 0, .lit (.slice none 0 0) => some []
  | _ + 1, .lit (.slice none 0 0) => some []
  | d + 1, .sl b n (some c) => match look b with
    | some A => if Nat.ble n c && Nat.ble c 999999 then (List.range n).mapM fun i => match (A.cs.drop (i * 8)).take 8 with
        | [.lit (.int .i64 a0), .lit (.int .i64 a1), .lit (.int .i64 a2), .lit (.int .i64 a3), .lit (.int .i64 a4), .lit (.int .i64 a5), .lit (.int .i64 a6), x] => (rdFlds look d x).map fun sub => .mk a0 a1 a2 a3 a4 a5 a6 sub
        | _ => none
      else none
    | none => none
  | _, _ => none

theorem all2_eight {E : En} {a0 a1 a2 a3 a4 a5 a6 : Int} {x : AC} {us : List Value} (h : All2 (AC.is E) [.lit (.int .i64 a0), .lit (.int .i64 a1), .lit (.int .i64 a2), .lit (.int .i64 a3), .lit (.int .i64 a4), .lit (.int .i64 a5), .lit (.int .i64 a6), x] us) :
    ∃ v, x.is E v ∧ us = [.int .i64 a0, .int .i64 a1, .int .i64 a2, .int .i64 a3, .int .i64 a4, .int .i64 a5, .int .i64 a6, v] := by
  cases h with | cons h0 h => cases h with | cons h1 h => cases h with | cons h2 h => cases h with | cons h3 h => cases h with | cons h4 h => cases h with | cons h5 h => cases h with | cons h6 h => cases h with | cons h7 h => cases h with | nil =>
  exact ⟨_, h7, by rw [show _ = _ from h0, show _ = _ from h1, show _ = _ from h2, show _ = _ from h3, show _ = _ from h4, show _ = _ from h5, show _ = _ from h6]⟩

theorem rdFlds_sound {E : En} {look : Nat → Option AB} {w : World} {B : Nat} (hr : Rd E look w) (hB : ∀ i b p, look i = some b → E[i]? = some p → p.1 < B) : ∀ (d : Nat) {x : AC} {flds : List Fld} {v : Value}, rdFlds look d x = some flds → x.is E v → FldsIs w B d flds v := by
  intro d
  induction d with
  | zero =>
    intro x flds v h hx
    unfold rdFlds at h
    split at h
    · simp only [Option.some.injEq] at h; subst h; exact ⟨rfl, hx⟩
    · contradiction
    · contradiction
    · cases h
  | succ d ih =>
    intro x flds v h hx
    unfold rdFlds at h
    split at h
    · contradiction
    · simp only [Option.some.injEq] at h; subst h; exact .inl ⟨rfl, hx⟩
    · rename_i d' b n c hd
      obtain rfl : d = d' := by omega
      split at h
      · rename_i A hA
        split at h
        · rename_i hle
          simp only [Bool.and_eq_true, Nat.ble_eq] at hle
          obtain ⟨p, hp, hblk⟩ := hr b A hA
          obtain ⟨p', hp', hv⟩ := hx
          rw [hp] at hp'; cases hp'
          have hn := mapM_some_length h
          rw [List.length_range] at hn
          refine .inr ⟨p.1, c, by rw [hv, hn]; rfl, by omega, by omega, hB b A p hA hp, fun i f hf => ?_⟩
          have hi : i < n := by
            have := (List.getElem?_eq_some_iff.1 hf).1
            omega
          have hg := mapM_some_get h i i (by simp [hi])
          rw [hf] at hg
          split at hg
          · rename_i a0 a1 a2 a3 a4 a5 a6 y hcs
            obtain ⟨sub, hsub, rfl⟩ := Option.map_eq_some_iff.1 hg
            have hlen : i * 8 + 8 ≤ A.cs.length := by
              have := congrArg List.length hcs
              simp only [List.length_take, List.length_drop, List.length_cons, List.length_nil] at this
              omega
            obtain ⟨us, hall, hul, hrange⟩ := hblk.range (i * 8) 8 hlen
            rw [hcs] at hall
            obtain ⟨u, hu, rfl⟩ := all2_eight hall
            exact ⟨u, fun j z hz => hrange j z hz, ih hsub hu⟩
          · cases hg
        · cases h
      · cases h
    · cases h

theorem FldsIs.few {w : World} {B : Nat} : ∀ {d : Nat} {flds : List Fld} {v : Value}, FldsIs w B d flds v → flds.length < 1000000
  | 0, _, _, h => by rw [h.1]; simp
  | d + 1, _, _, h => by
    rcases h with h | ⟨g, c, h1, h2, h3, h4, h5⟩
    · rw [h.1]; simp
    · omega

/-- What a message's function answers: its fields, and the first flexible version. -/
def rdMsg (d : Nat) : AV × AH → Option (List Fld × Int)
  | (.agg [x, .lit (.int .i64 flex)], h) => (rdFlds h.get d x).map fun l => (l, flex)
  | _ => none
/-- A function that makes a message. -/
def MakesMsg (P : Program) (f : FuncId) (d : Nat) (flds : List Fld) (flex : Int) : Prop :=
  Callable P f ∧ ∀ w : World, Calls P f #[] w fun e w' => ∃ v, e = .returned (.agg #[v, .int .i64 flex]) ∧ FldsIs w' w'.heap.size d flds v ∧ Ch (fun _ => False) w w'
theorem makes_msg {P : Program} (hm : P.follows .mixedOrders = true) {n d : Nat} {f : FuncId} {flds : List Fld} {flex : Int} (h : (acall P n f [] ⟨0, []⟩).bind (rdMsg d) = some (flds, flex)) : MakesMsg P f d flds flex := by
  obtain ⟨⟨v, h'⟩, ha, hr⟩ := Option.bind_eq_some_iff.1 h
  obtain ⟨hcal, hk⟩ := acall_sound hm n f _ _ _ _ ha
  refine ⟨hcal, fun w => (hk w w [] [] (Hp.start w) .nil).mono fun e w' ⟨r, he, E', hE', hv, k'⟩ => ?_⟩
  unfold rdMsg at hr
  split at hr
  · rename_i x fl h1 heq
    cases heq
    obtain ⟨l, hl, hle⟩ := Option.map_eq_some_iff.1 hr
    simp only [Prod.mk.injEq] at hle
    obtain ⟨rfl, rfl⟩ := hle
    obtain ⟨vs, hvs, rfl⟩ := hv
    cases hvs with | cons g0 hvs => cases hvs with | cons g1 hvs => cases hvs with | nil =>
    refine ⟨_, ?_, rdFlds_sound k'.rd (fun i b p hb hp => (k'.low i b p hb hp).2) d hl g0, ⟨k'.os, k'.tape, k'.output, k'.size, fun k hk _ => k'.old k hk⟩⟩
    rw [he, show _ = _ from g1]
  · cases hr
end Go.Kx
