import Derived.Test.Qxb6604185aClone
import Derived.Test.Qxb6604185aNumPlain
namespace Go.Proofs.Qxb6604185a
open Go.RowKit

theorem ret_int {k : IntKind} {a b : Int} (h : a = b) : Ending.returned (.int k a) = .returned (.int k b) := by rw [h]

set_option maxHeartbeats 1000000 in
/-- zzNumberStep -/
theorem step_any (st : Nat) (c : Int) (w : World) (hst : st ≤ 8) (_h0 : 0 ≤ c) (_h1 : c < 256) :
    Calls Try.prog 18 #[.int .i64 (st : Int), .int .u8 c] w fun e w' => e = .returned (.int .i64 (nstep st c : Int)) ∧ w' = w := by
  have hs : st = 0 ∨ st = 1 ∨ st = 2 ∨ st = 3 ∨ st = 4 ∨ st = 5 ∨ st = 6 ∨ st = 7 ∨ st = 8 := by omega
  rcases hs with rfl | rfl | rfl | rfl | rfl | rfl | rfl | rfl | rfl
  all_goals
    go_enter Try.func18, Try.ntmps18
    go_wp2
  all_goals
    go_ret
    refine ⟨ret_int ?_, rfl⟩
    try simp only [beq_iff_eq, beq_eq_false_iff_ne, ne_eq] at *
    simp only [nstep, dig, isE, Bool.and_eq_true, Bool.or_eq_true, decide_eq_true_eq, beq_iff_eq]
    (repeat' split) <;> first | rfl | (exfalso; omega) | simp_all

/-- zzNumberAccepting -/
theorem acc_any (st : Nat) (w : World) (hst : st ≤ 8) :
    Calls Try.prog 19 #[.int .i64 (st : Int)] w fun e w' => e = .returned (.bool (acc st)) ∧ w' = w := by
  have hs : st = 0 ∨ st = 1 ∨ st = 2 ∨ st = 3 ∨ st = 4 ∨ st = 5 ∨ st = 6 ∨ st = 7 ∨ st = 8 := by omega
  rcases hs with rfl | rfl | rfl | rfl | rfl | rfl | rfl | rfl | rfl
  all_goals
    go_enter Try.func19, Try.ntmps19
    go_wp2
    go_ret
    exact ⟨rfl, rfl⟩

theorem nstep_le (st : Nat) (c : Int) : nstep st c ≤ 9 := by
  unfold nstep
  split <;> (repeat' split) <;> omega

end Go.Proofs.Qxb6604185a
