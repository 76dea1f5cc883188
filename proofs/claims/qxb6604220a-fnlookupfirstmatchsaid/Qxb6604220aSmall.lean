import Derived.Test.Qxb6604220aLookup
namespace Go.Proofs.Qxb6604220a
open Go.RowKit

set_option maxHeartbeats 1000000 in
/-- ZZLookup -/
theorem zzLookup_any (p : Option Addr) (fs : List Fd) (c : Nat) (q : ByteArray) (w : World) (hf : FieldsAt w p fs) (bl : fs.length ≤ 1099511627776) :
    Calls Try.prog 7 #[.slice p fs.length c, .string q] w fun e w' => e = .returned (.tuple #[.agg #[.string (res fs q).1, .pointer (res fs q).2.1], .bool (res fs q).2.2]) ∧ Below w.heap.size w w' := by
  have hf1 : FieldsAt (w.alloc (.cells #[.string { data := #[] }, .pointer none] 30)) p fs := by
    rcases hf with h | ⟨b, o, e, h⟩
    · exact .inl h
    · refine .inr ⟨b, o, e, fun i f hi => ?_⟩
      obtain ⟨h1, h2⟩ := h i f hi
      rw [World.cell?_alloc_past _ _ _ (lt_of_cell h1), World.cell?_alloc_past _ _ _ (lt_of_cell h2)]
      exact ⟨h1, h2⟩
  have hlk := lookup_any p fs c q _ hf1 bl
  obtain ⟨nm, pt, ok, hres⟩ : ∃ nm pt ok, res fs q = (nm, pt, ok) := ⟨_, _, _, rfl⟩
  rw [hres] at hlk ⊢
  clear hres hf1
  go_enter Try.func7, Try.ntmps7
  go_wp2_with fail
  refine hlk.mono ?_
  rintro e w1 ⟨rfl, hb⟩
  have hR : w1.heap[w.heap.size]? = some (.cells #[.string { data := #[] }, .pointer none] 30 (0, 0)) := by
    rw [hb.block _ (by simp)]
    show (w.heap.push _)[w.heap.size]? = _
    simp
  have r0 : w1.cell? ⟨w.heap.size, 0, none⟩ = some (.string { data := #[] }) := by rw [cell_block hR]; rfl
  have r1 : w1.cell? ⟨w.heap.size, 1, none⟩ = some (.pointer none) := by rw [cell_block hR]; rfl
  have fz := fun i => frozen_block (i := i) hR
  have hR2 := block_setCell (i := 1) (block_setCell (i := 0) hR (.string nm)) (.pointer pt)
  have q0 := cell_block (i := 0) hR2
  have q1 := cell_block (i := 1) hR2
  have hB : Below w.heap.size w w1 := ((Below.refl _ _).alloc (Nat.le_refl _) _).trans (hb.mono (by simp))
  clear hR hR2 hb
  go_wp2
  refine bodyPost_ret (v := .tuple #[.agg #[.string nm, .pointer pt], .bool ok]) ?_ rfl ⟨rfl, ?_⟩
  · simp [results, Try.results7, go_sem, q0, q1]
  · exact (hB.setCell (Nat.le_refl _) _).setCell (Nat.le_refl _) _

theorem name_any (nm : ByteArray) (pt : Option Addr) (w : World) :
    Calls Try.prog 8 #[.agg #[.string nm, .pointer pt]] w fun e w' => e = .returned (.string nm) ∧ w' = w.alloc (.cells #[.string nm, .pointer pt] 30) := by
  go_enter Try.func8, Try.ntmps8
  go_wp2
  go_ret
  exact ⟨rfl, rfl⟩

theorem value_any (nm : ByteArray) (pt : Option Addr) (w : World) :
    Calls Try.prog 9 #[.agg #[.string nm, .pointer pt]] w fun e w' => e = .returned (.pointer pt) ∧ w' = w.alloc (.cells #[.string nm, .pointer pt] 30) := by
  go_enter Try.func9, Try.ntmps9
  go_wp2
  go_ret
  exact ⟨rfl, rfl⟩

theorem make_any (nm : ByteArray) (pt : Option Addr) (w : World) :
    Calls Try.prog 12 #[.string nm, .pointer pt] w fun e w' => e = .returned (.agg #[.string nm, .pointer pt]) ∧ w' = w.alloc (.cells #[.string nm, .pointer pt] 30) := by
  go_enter Try.func12, Try.ntmps12
  go_wp2
  refine bodyPost_ret (v := .agg #[.string nm, .pointer pt]) ?_ rfl ⟨rfl, rfl⟩
  simp [results, Try.results12, go_sem]

/-- the four names -/
def nU : ByteArray := { data := #[117, 115, 101, 114, 95, 105, 100] }
def nM : ByteArray := { data := #[109, 101, 109, 98, 101, 114, 95, 105, 100] }
def nUM : ByteArray := { data := #[117, 115, 101, 114, 95, 109, 101, 109, 98, 101, 114, 95, 105, 100] }
def nS : ByteArray := { data := #[115, 112, 97, 99, 101, 95, 105, 100] }

set_option maxHeartbeats 1000000 in
theorem actor_any (A : Nat) (w : World) :
    Calls Try.prog 13 #[.pointer (some ⟨A, 0, none⟩)] w fun e w' => e = .returned (.slice (some ⟨w.heap.size, 0, none⟩) 4 4) ∧ ∃ n, w' = (w.alloc (.cells #[.string nU, .pointer (some ⟨A, 0, none⟩), .string nM, .pointer (some ⟨A, 1, none⟩), .string nUM, .pointer (some ⟨A, 2, none⟩), .string nS, .pointer (some ⟨A, 3, none⟩)] 30)).drewN n := by
  go_enter Try.func13, Try.ntmps13
  go_wp2
  go_region
  all_goals (try go_wp2)
  all_goals go_ret
  exact ⟨rfl, 1, rfl⟩
end Go.Proofs.Qxb6604220a
