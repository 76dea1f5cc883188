import Derived.Below
namespace Go.Proofs.Qxb6604185a

/-! ### The automaton and the reader, as plain functions on lists of numbers. No Go. -/
def dig (c : Int) : Bool := decide (48 ≤ c) && decide (c ≤ 57)
def isE (c : Int) : Bool := c == 101 || c == 69

def nstep (st : Nat) (c : Int) : Nat :=
  match st with
  | 0 => if c = 45 then 1 else if c = 48 then 2 else if dig c then 3 else 9
  | 1 => if c = 48 then 2 else if dig c then 3 else 9
  | 2 => if c = 46 then 4 else if isE c then 6 else 9
  | 3 => if dig c then 3 else if c = 46 then 4 else if isE c then 6 else 9
  | 4 => if dig c then 5 else 9
  | 5 => if dig c then 5 else if isE c then 6 else 9
  | 6 => if c = 43 ∨ c = 45 then 7 else if dig c then 8 else 9
  | 7 => if dig c then 8 else 9
  | 8 => if dig c then 8 else 9
  | _ => 9

def acc (st : Nat) : Bool := st == 2 || st == 3 || st == 5 || st == 8

/-- the automaton's run: the state in which it stops, and how many it has read -/
def runL : Nat → List Int → Nat × Nat
  | st, [] => (st, 0)
  | st, c :: r => if nstep st c = 9 then (st, 0) else ((runL (nstep st c) r).1, (runL (nstep st c) r).2 + 1)

/-- how many digits lead the list -/
def drun : List Int → Nat
  | [] => 0
  | c :: r => if dig c then drun r + 1 else 0

def expoL : List Int → Bool × Nat
  | [] => (true, 0)
  | c :: r =>
    if isE c then
      match r with
      | [] => (false, 1)
      | s :: t => if s = 43 ∨ s = 45 then (decide (0 < drun t), 2 + drun t) else (decide (0 < drun (s :: t)), 1 + drun (s :: t))
    else (true, 0)

def fracL : List Int → Bool × Nat
  | [] => (true, 0)
  | c :: r => if c = 46 then (if drun r = 0 then (false, 1) else ((expoL (r.drop (drun r))).1, 1 + drun r + (expoL (r.drop (drun r))).2)) else expoL (c :: r)

def intL : List Int → Bool × Nat
  | [] => (false, 0)
  | c :: r => if c = 48 then ((fracL r).1, 1 + (fracL r).2) else if drun (c :: r) = 0 then (false, 0) else ((fracL ((c :: r).drop (drun (c :: r)))).1, drun (c :: r) + (fracL ((c :: r).drop (drun (c :: r)))).2)

def numL : List Int → Bool × Nat
  | [] => (false, 0)
  | c :: r => if c = 45 then ((intL r).1, 1 + (intL r).2) else intL (c :: r)

theorem dig_not {c : Int} (h : dig c = true) : c ≠ 46 ∧ c ≠ 45 ∧ c ≠ 43 ∧ isE c = false := by
  simp [dig] at h
  refine ⟨by omega, by omega, by omega, ?_⟩
  simp [isE]; omega

theorem run8 : ∀ l, runL 8 l = (8, drun l)
  | [] => rfl
  | c :: r => by
    cases h : dig c
    · simp [runL, nstep, drun, h]
    · simp [runL, nstep, drun, h, run8 r]

theorem run7 (l : List Int) : runL 7 l = if drun l = 0 then (7, 0) else (8, drun l) := by
  cases l with
  | nil => rfl
  | cons c r =>
    cases h : dig c
    · simp [runL, nstep, drun, h]
    · simp [runL, nstep, drun, h, run8 r]

theorem run6 (l : List Int) : (acc (runL 6 l).1, 1 + (runL 6 l).2) = match l with
    | [] => (false, 1)
    | s :: t => if s = 43 ∨ s = 45 then (decide (0 < drun t), 2 + drun t) else (decide (0 < drun (s :: t)), 1 + drun (s :: t)) := by
  cases l with
  | nil => rfl
  | cons s t =>
    by_cases hs : s = 43 ∨ s = 45
    · simp [runL, nstep, hs, run7]
      split
      · rename_i h0; simp [acc, h0]
      · rename_i h0; simp [acc]; omega
    · simp only [if_neg hs]
      cases h : dig s
      · simp [runL, nstep, hs, drun, h, acc]
      · simp [runL, nstep, hs, drun, h, run8, acc]

/-- the automaton behind an accepting state, at an exponent -/
def expR (st : Nat) : List Int → Nat × Nat
  | [] => (st, 0)
  | c :: r => if isE c then ((runL 6 r).1, (runL 6 r).2 + 1) else (st, 0)

theorem expR_law {st : Nat} (hs : acc st = true) (l : List Int) : (acc (expR st l).1, (expR st l).2) = expoL l := by
  cases l with
  | nil => simp [expR, expoL, hs]
  | cons c r =>
    cases h : isE c
    · simp [expR, expoL, h, hs]
    · simp only [expR, expoL, h, if_true]
      rw [← run6 r, Nat.add_comm]

theorem run5 : ∀ l, runL 5 l = ((expR 5 (l.drop (drun l))).1, drun l + (expR 5 (l.drop (drun l))).2)
  | [] => rfl
  | c :: r => by
    cases h : dig c
    · cases he : isE c
      · simp [runL, nstep, drun, h, he, expR]
      · simp [runL, nstep, drun, h, he, expR]
    · simp [runL, nstep, drun, h, run5 r]
      omega

theorem run4 (l : List Int) : runL 4 l = if drun l = 0 then (4, 0) else ((expR 5 (l.drop (drun l))).1, drun l + (expR 5 (l.drop (drun l))).2) := by
  cases l with
  | nil => rfl
  | cons c r =>
    cases h : dig c
    · simp [runL, nstep, drun, h]
    · simp [runL, nstep, drun, h, run5 r]
      omega

def fracR (st : Nat) : List Int → Nat × Nat
  | [] => (st, 0)
  | c :: r => if c = 46 then ((runL 4 r).1, (runL 4 r).2 + 1) else expR st (c :: r)

theorem fracR_law {st : Nat} (hs : acc st = true) (l : List Int) : (acc (fracR st l).1, (fracR st l).2) = fracL l := by
  cases l with
  | nil => simp [fracR, fracL, hs]
  | cons c r =>
    by_cases h : c = 46
    · simp only [fracR, fracL, h, if_true]
      rw [run4]
      split
      · simp [acc]
      · rw [← expR_law (st := 5) (by rfl)]
        simp
        omega
    · simp only [fracR, fracL, h, if_false]
      exact expR_law hs _

theorem run3 : ∀ l, runL 3 l = ((fracR 3 (l.drop (drun l))).1, drun l + (fracR 3 (l.drop (drun l))).2)
  | [] => rfl
  | c :: r => by
    cases h : dig c
    · by_cases hp : c = 46
      · simp [runL, nstep, drun, hp, fracR]
        simp [dig]
      · cases he : isE c
        · simp [runL, nstep, drun, h, he, expR, fracR, hp]
        · simp [runL, nstep, drun, h, he, expR, fracR, hp]
    · simp [runL, nstep, drun, h, run3 r]
      omega

theorem run2 (l : List Int) : runL 2 l = fracR 2 l := by
  cases l with
  | nil => rfl
  | cons c r =>
    by_cases hp : c = 46
    · simp [runL, nstep, hp, fracR]
    · cases he : isE c
      · simp [runL, nstep, he, expR, fracR, hp]
      · simp [runL, nstep, he, expR, fracR, hp]

theorem run1 (st : Nat) (hst : st = 0 ∨ st = 1) (c : Int) (r : List Int) (hc : st = 0 → c ≠ 45) : (acc (runL st (c :: r)).1, (runL st (c :: r)).2) = intL (c :: r) := by
  have hn : nstep st c = if c = 48 then 2 else if dig c then 3 else 9 := by
    rcases hst with rfl | rfl
    · simp [nstep, hc rfl]
    · rfl
  by_cases h0 : c = 48
  · subst h0
    have hn' : nstep st 48 = 2 := by rw [hn]; rfl
    simp only [runL, hn', if_true, intL, run2]
    rw [← fracR_law (st := 2) rfl]
    simp
    omega
  · cases h : dig c
    · have ha : acc st = false := by rcases hst with rfl | rfl <;> rfl
      simp [runL, hn, h0, h, intL, drun, ha]
    · simp only [runL, hn, h0, h, if_false, intL, drun, if_true]
      simp only [run3]
      rw [← fracR_law (st := 3) rfl]
      simp
      omega

/-- THE PLAIN LAW. -/
theorem num_law (l : List Int) : (acc (runL 0 l).1, (runL 0 l).2) = numL l := by
  cases l with
  | nil => rfl
  | cons c r =>
    by_cases hm : c = 45
    · subst hm
      simp only [numL, if_true]
      have hn : nstep 0 45 = 1 := rfl
      cases r with
      | nil => rfl
      | cons d t =>
        rw [← run1 1 (.inr rfl) d t (by omega)]
        simp only [runL, hn]
        simp
        omega
    · simp only [numL, hm, if_false]
      exact run1 0 (.inl rfl) c r (fun _ => hm)

/-! ### by places -/
theorem drop_some {xs : List Int} {k : Nat} {c : Int} (h : xs[k]? = some c) : xs.drop k = c :: xs.drop (k + 1) := by
  obtain ⟨hk, rfl⟩ := List.getElem?_eq_some_iff.1 h
  exact List.drop_eq_getElem_cons hk
theorem drop_none {xs : List Int} {k : Nat} (h : xs[k]? = none) : xs.drop k = [] := List.drop_eq_nil_of_le (List.getElem?_eq_none_iff.1 h)

def digEnd (xs : List Int) (k : Nat) : Nat := k + drun (xs.drop k)
def expoF (xs : List Int) (k : Nat) : Bool × Nat := ((expoL (xs.drop k)).1, k + (expoL (xs.drop k)).2)
def fracF (xs : List Int) (k : Nat) : Bool × Nat := ((fracL (xs.drop k)).1, k + (fracL (xs.drop k)).2)
def intF (xs : List Int) (k : Nat) : Bool × Nat := ((intL (xs.drop k)).1, k + (intL (xs.drop k)).2)
def numF (xs : List Int) (k : Nat) : Bool × Nat := ((numL (xs.drop k)).1, k + (numL (xs.drop k)).2)

theorem drun_le : ∀ l : List Int, drun l ≤ l.length
  | [] => Nat.le_refl _
  | c :: r => by
    unfold drun
    split
    · have := drun_le r; simp; omega
    · simp

theorem digEnd_ge (xs : List Int) (k : Nat) : k ≤ digEnd xs k := Nat.le_add_right _ _
theorem digEnd_step {xs : List Int} {k : Nat} {c : Int} (h : xs[k]? = some c) (hd : dig c = true) : digEnd xs k = digEnd xs (k + 1) := by
  unfold digEnd
  rw [drop_some h]
  simp [drun, hd]
  omega
theorem digEnd_stop {xs : List Int} {k : Nat} (h : ∀ c, xs[k]? = some c → dig c = false) : digEnd xs k = k := by
  unfold digEnd
  cases hx : xs[k]? with
  | none => simp [drop_none hx, drun]
  | some c => simp [drop_some hx, drun, h c hx]
theorem digEnd_le {xs : List Int} {k : Nat} (h : k ≤ xs.length) : digEnd xs k ≤ xs.length := by
  have := drun_le (xs.drop k)
  simp at this
  unfold digEnd
  omega

/-- the exponent's part -/
theorem expoF_no {xs : List Int} {k : Nat} (h : ∀ c, xs[k]? = some c → isE c = false) : expoF xs k = (true, k) := by
  unfold expoF
  cases hx : xs[k]? with
  | none => simp [drop_none hx, expoL]
  | some c => simp [drop_some hx, expoL, h c hx]
theorem expoF_sign {xs : List Int} {k : Nat} {c s : Int} (h : xs[k]? = some c) (he : isE c = true) (h1 : xs[k + 1]? = some s) (hs : s = 43 ∨ s = 45) : expoF xs k = (decide (k + 1 + 1 < digEnd xs (k + 1 + 1)), digEnd xs (k + 1 + 1)) := by
  unfold expoF digEnd
  rw [drop_some h, drop_some h1]
  simp only [expoL, he, if_true, hs]
  simp
  omega
theorem expoF_bare {xs : List Int} {k : Nat} {c : Int} (h : xs[k]? = some c) (he : isE c = true) (h1 : ∀ s, xs[k + 1]? = some s → ¬ (s = 43 ∨ s = 45)) : expoF xs k = (decide (k + 1 < digEnd xs (k + 1)), digEnd xs (k + 1)) := by
  unfold expoF digEnd
  rw [drop_some h]
  cases hx : xs[k + 1]? with
  | none => simp [drop_none hx, expoL, he, drun]
  | some s =>
    rw [drop_some hx]
    simp only [expoL, he, if_true, h1 s hx, if_false]
    simp
    omega
/-- the fraction's part -/
theorem fracF_no {xs : List Int} {k : Nat} (h : xs[k]? ≠ some 46) : fracF xs k = expoF xs k := by
  unfold fracF expoF
  cases hx : xs[k]? with
  | none => simp [drop_none hx, fracL, expoL]
  | some c =>
    have : c ≠ 46 := fun e => h (by rw [hx, e])
    simp [drop_some hx, fracL, this]
theorem fracF_bad {xs : List Int} {k : Nat} (h : xs[k]? = some 46) (hd : digEnd xs (k + 1) = k + 1) : fracF xs k = (false, k + 1) := by
  unfold fracF
  unfold digEnd at hd
  have : drun (xs.drop (k + 1)) = 0 := by omega
  simp [drop_some h, fracL, this]
theorem fracF_ok {xs : List Int} {k : Nat} (h : xs[k]? = some 46) (hd : digEnd xs (k + 1) ≠ k + 1) : fracF xs k = expoF xs (digEnd xs (k + 1)) := by
  unfold fracF expoF
  have hd' : drun (xs.drop (k + 1)) ≠ 0 := fun e => hd (by unfold digEnd; omega)
  rw [drop_some h]
  simp only [fracL, if_true, hd', if_false]
  have e : xs.drop (digEnd xs (k + 1)) = (xs.drop (k + 1)).drop (drun (xs.drop (k + 1))) := by rw [List.drop_drop]; rfl
  rw [e]
  unfold digEnd
  simp
  omega
/-- the integer's part -/
theorem intF_zero {xs : List Int} {k : Nat} (h : xs[k]? = some 48) : intF xs k = fracF xs (k + 1) := by
  unfold intF fracF
  simp [drop_some h, intL]
  omega
theorem intF_bad {xs : List Int} {k : Nat} (h : xs[k]? ≠ some 48) (hd : digEnd xs k = k) : intF xs k = (false, k) := by
  unfold intF
  unfold digEnd at hd
  have hd' : drun (xs.drop k) = 0 := by omega
  cases hx : xs[k]? with
  | none => simp [drop_none hx, intL]
  | some c =>
    have : c ≠ 48 := fun e => h (by rw [hx, e])
    rw [drop_some hx] at hd' ⊢
    simp [intL, this, hd']
theorem intF_ok {xs : List Int} {k : Nat} (h : xs[k]? ≠ some 48) (hd : digEnd xs k ≠ k) : intF xs k = fracF xs (digEnd xs k) := by
  unfold intF fracF
  have hd' : drun (xs.drop k) ≠ 0 := fun e => hd (by unfold digEnd; omega)
  have e : xs.drop (digEnd xs k) = (xs.drop k).drop (drun (xs.drop k)) := by rw [List.drop_drop]; rfl
  rw [e]
  cases hx : xs[k]? with
  | none => simp [drop_none hx, drun] at hd'
  | some c =>
    have : c ≠ 48 := fun e => h (by rw [hx, e])
    unfold digEnd
    rw [drop_some hx] at hd' ⊢
    simp only [intL, this, if_false, hd']
    simp
    omega
theorem numF_minus {xs : List Int} {k : Nat} (h : xs[k]? = some 45) : numF xs k = intF xs (k + 1) := by
  unfold intF numF
  simp [drop_some h, numL]
  omega
theorem numF_plain {xs : List Int} {k : Nat} (h : xs[k]? ≠ some 45) : numF xs k = intF xs k := by
  unfold intF numF
  cases hx : xs[k]? with
  | none => simp [drop_none hx, numL, intL]
  | some c =>
    have : c ≠ 45 := fun e => h (by rw [hx, e])
    simp [drop_some hx, numL, this]

theorem numF_law (xs : List Int) (k : Nat) : numF xs k = (acc (runL 0 (xs.drop k)).1, k + (runL 0 (xs.drop k)).2) := by
  unfold numF
  rw [← num_law]

end Go.Proofs.Qxb6604185a
