import Derived.Below
namespace Go.Proofs.Qxb6604283a

/-! ### The encoding, as plain lists of numbers. No Go. -/
/-- digit i of v in base B -/
def dg (B v i : Nat) : Nat := v / B ^ i % B
/-- the first m digits of v from the top, v having n of them, c added to each -/
def ups (B c v n : Nat) : Nat → List Int
  | 0 => []
  | m + 1 => ups B c v n m ++ [((c + dg B v (n - 1 - m) : Nat) : Int)]

theorem ups_length (B c v n : Nat) : ∀ m, (ups B c v n m).length = m
  | 0 => rfl
  | m + 1 => by simp [ups, ups_length B c v n m]

/-- v has n digits in base B -/
def Digs (B v n : Nat) : Prop := 1 ≤ n ∧ v < B ^ n ∧ (n = 1 ∨ B ^ (n - 1) ≤ v)

end Go.Proofs.Qxb6604283a
