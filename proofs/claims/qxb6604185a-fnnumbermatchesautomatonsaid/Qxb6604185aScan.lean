import Derived.Test.Qxb6604185aCloneNames
import Derived.Test.Qxb6604185aNumPlain
import Derived.Deep.LoopGhost
namespace Go.Proofs.Qxb6604185a
open Go.RowKit

/-- THE SCANNER: its block is w0's next; its five fields; below it all is as it was. -/
structure ScanIs (w0 w : World) (p : Option Addr) (n c k : Nat) (D Sp R : Value) : Prop where
  below : Below w0.heap.size w0 w
  blk : w.heap[w0.heap.size]? = some (.cells #[.slice p n c, .int .i64 (k : Int), D, Sp, R] 43 (0, 0))

theorem ScanIs.drewN {w0 w : World} {p : Option Addr} {n c k : Nat} {D Sp R : Value} (h : ScanIs w0 w p n c k D Sp R) (m : Nat) : ScanIs w0 (w.drewN m) p n c k D Sp R := ⟨below_drewN h.below m, h.blk⟩
theorem ScanIs.c0 {w0 w : World} {p : Option Addr} {n c k : Nat} {D Sp R : Value} (h : ScanIs w0 w p n c k D Sp R) : w.cell? ⟨w0.heap.size, 0, none⟩ = some (.slice p n c) := by rw [cell_block h.blk]; rfl
theorem ScanIs.c1 {w0 w : World} {p : Option Addr} {n c k : Nat} {D Sp R : Value} (h : ScanIs w0 w p n c k D Sp R) : w.cell? ⟨w0.heap.size, 1, none⟩ = some (.int .i64 (k : Int)) := by rw [cell_block h.blk]; rfl
theorem ScanIs.fz {w0 w : World} {p : Option Addr} {n c k : Nat} {D Sp R : Value} (h : ScanIs w0 w p n c k D Sp R) (i : Nat) : w.frozen? ⟨w0.heap.size, i, none⟩ = false := frozen_block h.blk
/-- 's.pos++' -/
theorem ScanIs.next {w0 w : World} {p : Option Addr} {n c k : Nat} {D Sp R : Value} (h : ScanIs w0 w p n c k D Sp R) : ScanIs w0 (w.setCell ⟨w0.heap.size, 1, none⟩ (.int .i64 ((k : Int) + 1))) p n c (k + 1) D Sp R := by
  refine ⟨h.below.setCell (Nat.le_refl _) _, ?_⟩
  rw [block_setCell h.blk]
  rfl

set_option maxHeartbeats 1000000 in
/-- (*scanner).digits -/
theorem digits_any (w0 w : World) (p : Option Addr) (xs : List Int) (c k : Nat) (D Sp R : Value) (h : ScanIs w0 w p xs.length c k D Sp R) (hx : BytesAt w0 p xs) (bl : xs.length ≤ 1048576) :
    Calls Try.prog 21 #[.pointer (some ⟨w0.heap.size, 0, none⟩)] w fun e w' => e = .returned (.bool (decide (k < digEnd xs k))) ∧ ScanIs w0 w' p xs.length c (digEnd xs k) D Sp R := by
  have hne : ∀ m, m < xs.length → ∃ b o, p = some ⟨b, o, none⟩ ∧ ∀ i, i < xs.length → w0.cell? ⟨b, o + i, none⟩ = some (.int .u8 (xs.getD i 0)) := fun m hm => by
    rcases hx with rfl | h
    · simp at hm
    · exact h
  have c1 := h.c1
  go_enter Try.func21, Try.ntmps21
  go_wp2
  go_loopg [8] (xs.length - k) (fun g _s8 wr => ∃ m : Nat, k ≤ m ∧ g = xs.length - m ∧ ScanIs w0 wr p xs.length c m D Sp R ∧ Hid (digEnd xs k = digEnd xs m))
  case atStart => exact ⟨k, Nat.le_refl _, rfl, h, rfl⟩
  case round =>
    obtain ⟨m, hkm, hgk, hI, HD⟩ := hrel
    clear h c1
    have c0 := hI.c0
    have c1 := hI.c1
    have fz := hI.fz 1
    by_cases hlt : m < xs.length
    · obtain ⟨b, o, rfl, hc⟩ := hne m hlt
      have h1 := hc m hlt
      have h1r : wr.cell? ⟨b, o + m, none⟩ = some (.int .u8 (xs.getD m 0)) := (hI.below.cell (p := ⟨b, o + m, none⟩) (lt_of_cell h1)).trans h1
      have hmi : (m : Int) < (xs.length : Int) := by omega
      have HG : Hid (xs[m]? = some (xs.getD m 0)) := by show _ = _; simp [List.getD, hlt]
      clear hc hne hx h1
      generalize xs.getD m 0 = v at *
      by_cases hv1 : 48 ≤ v
      · by_cases hv2 : v ≤ 57
        · have HD' : Hid (digEnd xs k = digEnd xs (m + 1)) := HD.out.trans (digEnd_step HG.out (by simp [dig, hv1, hv2]))
          go_wp2
          go_quiet (fail)
          go_wp2
          have hn := (hI.drewN nq).next
          clear c0 c1 fz h1r hI
          go_roundg (xs.length - (m + 1))
          case measure => omega
          case rel => exact ⟨m + 1, by omega, rfl, hn, HD'⟩
        · have hv2' : decide (v ≤ 57) = false := by simpa using hv2
          have HE : Hid (digEnd xs k = m) := HD.out.trans (digEnd_stop (fun c hc => by
            rw [HG.out] at hc; cases hc; simp [dig]; omega))
          go_wp2
          go_quiet (fail)
          go_wp2
          go_ret
          rw [HE.out]
          exact ⟨by simp, hI.drewN nq⟩
      · have hv1' : decide (48 ≤ v) = false := by simpa using hv1
        have HE : Hid (digEnd xs k = m) := HD.out.trans (digEnd_stop (fun c hc => by
            rw [HG.out] at hc; cases hc; simp [dig]; omega))
        go_wp2
        go_quiet (fail)
        go_wp2
        go_ret
        rw [HE.out]
        exact ⟨by simp, hI.drewN nq⟩
    · have hlt' : decide ((m : Int) < (xs.length : Int)) = false := by simp; omega
      have HE : Hid (digEnd xs k = m) := HD.out.trans (digEnd_stop (fun c hc => by
            have := (List.getElem?_eq_some_iff.1 hc).1; omega))
      clear hne hx
      go_wp2
      go_quiet (fail)
      go_wp2
      go_ret
      rw [HE.out]
      exact ⟨by simp, hI.drewN nq⟩
end Go.Proofs.Qxb6604185a
