import Derived.Test.Qxb6604185aNumber
import Derived.Test.Qxb6604185aNumModel
import Derived.Test.Qxb6604185aNames
namespace Go.Proofs.Qxb6604185a
open Go.RowKit

set_option maxRecDepth 100000 in
set_option maxHeartbeats 1000000 in
/-- ZZScanNumber -/
theorem scan_any (p q : Option Addr) (xs : List Int) (c k m d : Nat) (dp : Int) (sp : Bool) (w : World) (hx : BytesAt w p xs) (bl : xs.length ≤ 1048576) :
    Calls Try.prog 8 #[.slice p xs.length c, .int .i64 (k : Int), .int .i64 dp, .bool sp, .slice q m d] w fun e w' =>
      e = .returned (.tuple #[.bool (numF xs k).1, .slice p xs.length c, .int .i64 ((numF xs k).2 : Int), .int .i64 dp, .bool sp, .slice q m d]) ∧ Below w.heap.size w w' := by
  have hst : ScanIs w (w.alloc (.cells #[.slice p xs.length c, .int .i64 (k : Int), .int .i64 dp, .bool sp, .slice q m d] 43)) p xs.length c k (.int .i64 dp) (.bool sp) (.slice q m d) :=
    ⟨(Below.refl _ _).alloc (Nat.le_refl _) _, by show (w.heap.push _)[w.heap.size]? = _; simp⟩
  go_enter Try.func8, Try.ntmps8
  go_wp2_with fail
  refine (number_any w _ p xs c k _ _ _ hst hx bl).mono ?_
  rintro e w1 ⟨rfl, h⟩
  have c0 := h.c0
  have c1 := h.c1
  have c2 : w1.cell? ⟨w.heap.size, 2, none⟩ = some (.int .i64 dp) := by rw [cell_block h.blk]; rfl
  have c3 : w1.cell? ⟨w.heap.size, 3, none⟩ = some (.bool sp) := by rw [cell_block h.blk]; rfl
  have c4 : w1.cell? ⟨w.heap.size, 4, none⟩ = some (.slice q m d) := by rw [cell_block h.blk]; rfl
  clear hst
  go_wp2_with fail
  go_quiet (fail)
  go_wp2_with fail
  exact bodyPost_ret (v := .tuple #[.bool (numF xs k).1, .slice p xs.length c, .int .i64 ((numF xs k).2 : Int), .int .i64 dp, .bool sp, .slice q m d]) (by simp [results, Try.results8]) rfl ⟨rfl, below_drewN h.below _⟩

set_option maxHeartbeats 1000000 in
/-- zzBytes_FnNumberMatchesAutomaton -/
theorem bytesN_any (p q : Option Addr) (n c m d : Nat) (a1 a2 : Int) (sp : Bool) (w : World) :
    Calls Try.prog 6 #[.slice p n c, .int .i64 a1, .int .i64 a2, .bool sp, .slice q m d] w fun e w' => Says e (n ≤ 1048576 ∧ m ≤ 1048576 ∧ n + m ≤ 1048576) ∧ w' = w := by
  go_enter Try.func6, Try.ntmps6
  go_wp2
  all_goals go_ret
  all_goals first
    | exact ⟨Says.no, rfl⟩
    | exact ⟨Says.yes (by omega), rfl⟩

end Go.Proofs.Qxb6604185a
