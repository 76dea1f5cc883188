import Derived.Test.Qxb6604185aNumWalk
namespace Go.Proofs.Qxb6604185a
open Go.RowKit

theorem getD_some {xs : List Int} {k : Nat} (h : k < xs.length) : xs[k]? = some (xs.getD k 0) := by simp [List.getD, h]

set_option maxHeartbeats 1000000 in
/-- zzNumberModel -/
theorem model_any (p : Option Addr) (xs : List Int) (c k : Nat) (w : World) (hx : BytesAt w p xs) (bx : Bytey xs) (bl : xs.length ≤ 1048576) (hk : k ≤ 9223372036854775807) :
    Calls Try.prog 9 #[.slice p xs.length c, .int .i64 (k : Int)] w fun e w' => e = .returned (.tuple #[.bool (numF xs k).1, .int .i64 ((numF xs k).2 : Int)]) ∧ w' = w := by
  rw [numF_law]
  have hne : ∀ m, m < xs.length → ∃ b o, p = some ⟨b, o, none⟩ ∧ ∀ i, i < xs.length → w.cell? ⟨b, o + i, none⟩ = some (.int .u8 (xs.getD i 0)) := fun m hm => by
    rcases hx with rfl | h
    · simp at hm
    · exact h
  go_enter Try.func9, Try.ntmps9
  go_wp2
  go_loop [6, 7] (fun s i => ∃ m st : Nat, i = .int .i64 m ∧ s = .int .i64 st ∧ st ≤ 8 ∧ m ≤ 9223372036854775807 ∧ Hid ((runL 0 (xs.drop k)).1 = (runL st (xs.drop m)).1 ∧ k + (runL 0 (xs.drop k)).2 = m + (runL st (xs.drop m)).2)) (fun _ i => xs.length - (intOf i).toNat)
  case atStart => exact ⟨k, 0, rfl, rfl, by omega, hk, rfl, rfl⟩
  case round =>
    obtain ⟨m, st, rfl, rfl, hst, hm, HR⟩ := hrel
    by_cases hlt : m < xs.length
    · obtain ⟨b, o, rfl, hc⟩ := hne m hlt
      have h1 := hc m hlt
      have hb := bx (xs.getD m 0) (by rw [List.getD_eq_getElem?_getD, List.getElem?_eq_getElem hlt]; simp)
      have hd := drop_some (getD_some hlt)
      have hmi : (m : Int) < (xs.length : Int) := by omega
      have hstep := step_any st (xs.getD m 0) w hst hb.1 hb.2
      have hnl := nstep_le st (xs.getD m 0)
      have HD : Hid (xs.drop m = xs.getD m 0 :: xs.drop (m + 1)) := hd
      clear hc hne hd hx
      generalize hv : xs.getD m 0 = v at *
      clear hv hb
      cases h9 : ((nstep st v : Int) == 9)
      · have h9' : nstep st v ≠ 9 := by
          intro e; rw [e] at h9; simp at h9
        have HR' : Hid ((runL 0 (xs.drop k)).1 = (runL (nstep st v) (xs.drop (m + 1))).1 ∧ k + (runL 0 (xs.drop k)).2 = m + 1 + (runL (nstep st v) (xs.drop (m + 1))).2) := by
          obtain ⟨r1, r2⟩ := HR.out
          rw [HD.out] at r1 r2
          simp only [runL, if_neg h9'] at r1 r2
          exact ⟨r1, by omega⟩
        clear HR HD
        go_wp2_with fail
        refine hstep.mono ?_
        rintro e w' ⟨rfl, hw⟩
        obtain rfl : w = w' := hw.symm
        clear hstep
        go_wp2
        go_round
        case rel => exact ⟨m + 1, nstep st v, by go_num, rfl, by omega, by omega, HR'⟩
        case measure => simp [intOf]; omega
      · have h9' : nstep st v = 9 := by have := eq_of_beq h9; omega
        have HR' : Hid ((runL 0 (xs.drop k)).1 = st ∧ k + (runL 0 (xs.drop k)).2 = m) := by
          obtain ⟨r1, r2⟩ := HR.out
          rw [HD.out] at r1 r2
          simp only [runL, if_pos h9'] at r1 r2
          exact ⟨r1, by omega⟩
        clear HR HD h9'
        go_wp2_with fail
        refine hstep.mono ?_
        rintro e w' ⟨rfl, hw⟩
        obtain rfl : w = w' := hw.symm
        clear hstep
        go_wp2_with fail
        refine (acc_any st w hst).mono ?_
        rintro e w' ⟨rfl, hw⟩
        obtain rfl : w = w' := hw.symm
        go_wp2
        go_ret2
        rw [HR'.out.1, HR'.out.2]
        exact ⟨rfl, rfl⟩
    · have HR' : Hid ((runL 0 (xs.drop k)).1 = st ∧ k + (runL 0 (xs.drop k)).2 = m) := by
        obtain ⟨r1, r2⟩ := HR.out
        rw [List.drop_eq_nil_of_le (show xs.length ≤ m by omega)] at r1 r2
        simp only [runL] at r1 r2
        exact ⟨r1, by omega⟩
      clear HR hne hx
      go_wp2_with fail
      refine (acc_any st w hst).mono ?_
      rintro e w' ⟨rfl, hw⟩
      obtain rfl : w = w' := hw.symm
      go_wp2
      go_ret2
      rw [HR'.out.1, HR'.out.2]
      exact ⟨rfl, rfl⟩
end Go.Proofs.Qxb6604185a
