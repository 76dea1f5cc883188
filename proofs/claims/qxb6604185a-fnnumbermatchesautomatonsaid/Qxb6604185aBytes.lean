import Derived.Test.Qxb6604185aRows
import Derived.WalkKit
import Derived.WalkSpells
import Derived.WalkLawsBesides
import Derived.Laws.BytesArg
import Derived.Deep.QuietTactic
import Derived.BigQuiet
import Derived.RegionTactic
namespace Go.Proofs.Qxb6604185a
open Go.RowKit

/-- THE BYTES OF A SLICE: where there is one, the slice leads to an address of no spot, and its cells hold them; where there is none, whatever the address. -/
def BytesAt (w : World) (p : Option Addr) (xs : List Int) : Prop :=
  xs = [] ∨ ∃ b o, p = some ⟨b, o, none⟩ ∧ ∀ i, i < xs.length → w.cell? ⟨b, o + i, none⟩ = some (.int .u8 (xs.getD i 0))

/-- each number is a byte's -/
def Bytey (xs : List Int) : Prop := ∀ x ∈ xs, 0 ≤ x ∧ x < 256

theorem BytesAt.convert {w : World} {p : Option Addr} {xs : List Int} (h : BytesAt w p xs) (c : Nat) :
    (convert 22 9 (.slice p xs.length c)).run Try.prog w = .ok (.string (strOfNums xs)) w := by
  rcases h with rfl | ⟨b, o, rfl, hc⟩
  · rw [run_convert_bytes_string w 22 9 5 _ _ c Try.underlying22 Try.underlying5 Try.underlying9]
    cases p <;> simp [Conv.bytesToString, loadCells] <;> rfl
  · exact run_convert_bytes_arg (P := Try.prog) w 22 5 Try.underlying22 Try.underlying5 b o _ c xs rfl hc 9 Try.underlying9

theorem strOfNums_inj {xs ys : List Int} (hx : Bytey xs) (hy : Bytey ys) (h : strOfNums xs = strOfNums ys) : xs = ys := by
  have h' : (xs.map fun n => UInt8.ofNat n.toNat) = ys.map fun n => UInt8.ofNat n.toNat := by
    rw [← strOfNums_data, ← strOfNums_data, h]
  clear h
  induction xs generalizing ys with
  | nil => cases ys with
    | nil => rfl
    | cons y ys => simp at h'
  | cons x xs ih => cases ys with
    | nil => simp at h'
    | cons y ys =>
      simp only [List.map_cons, List.cons.injEq] at h'
      have h1 := hx x (by simp)
      have h2 := hy y (by simp)
      have e : x = y := by
        have := congrArg UInt8.toNat h'.1
        simp [UInt8.toNat_ofNat'] at this
        omega
      rw [e, ih (fun z hz => hx z (by simp [hz])) (fun z hz => hy z (by simp [hz])) h'.2]

theorem str_beq {xs ys : List Int} (hx : Bytey xs) (hy : Bytey ys) : ((strOfNums xs).toList == (strOfNums ys).toList) = (xs == ys) := by
  rw [Bool.eq_iff_iff]
  simp only [beq_iff_eq]
  constructor
  · intro h
    refine strOfNums_inj hx hy ?_
    rw [ByteArray.toList_eq, ByteArray.toList_eq] at h
    exact WideShapes.bytes_inj h
  · rintro rfl
    rfl

/-- bytes.Equal -/
theorem Equal_any (p q : Option Addr) (xs ys : List Int) (c d : Nat) (w : World) (hx : BytesAt w p xs) (hy : BytesAt w q ys) (bx : Bytey xs) (by' : Bytey ys) :
    Calls Try.prog 22 #[.slice p xs.length c, .slice q ys.length d] w fun e w' => e = .returned (.bool (xs == ys)) ∧ w' = w := by
  have h1 := hx.convert c
  have h2 := hy.convert d
  go_enter Try.func22, Try.ntmps22
  go_wp2
  go_ret
  refine ⟨?_, rfl⟩
  show Ending.returned (.bool ((strOfNums xs).toList == (strOfNums ys).toList)) = _
  rw [str_beq bx by']

theorem list_eq_getD {xs ys : List Int} (hl : xs.length = ys.length) (h : ∀ j, j < xs.length → xs.getD j 0 = ys.getD j 0) : xs = ys := by
  refine List.ext_getElem hl fun i h1 h2 => ?_
  have := h i h1
  simpa [List.getD, h1, h2] using this

theorem beq_false_at {xs ys : List Int} {k : Nat} (h : (xs[k]?.getD 0 != ys[k]?.getD 0) = true) : (xs == ys) = false := by
  rw [beq_eq_false_iff_ne]
  rintro rfl
  simp at h
theorem eq_step {xs ys : List Int} {k : Nat} (H : Hid (∀ j, j < k → xs.getD j 0 = ys.getD j 0)) (h : (xs[k]?.getD 0 != ys[k]?.getD 0) = false) : Hid (∀ j, j < k + 1 → xs.getD j 0 = ys.getD j 0) := by
  intro j hj
  rcases Nat.lt_succ_iff_lt_or_eq.1 hj with h' | rfl
  · exact H.out j h'
  · simpa [List.getD] using h
theorem beq_true_at {xs ys : List Int} (hl : xs.length = ys.length) (H : Hid (∀ j, j < xs.length → xs.getD j 0 = ys.getD j 0)) : (xs == ys) = true := by
  rw [beq_iff_eq]
  exact list_eq_getD hl H.out

set_option maxHeartbeats 400000 in
/-- zzEqBytes -/
theorem zzEq_any (p q : Option Addr) (xs ys : List Int) (c d : Nat) (w : World) (hx : BytesAt w p xs) (hy : BytesAt w q ys) (bl : xs.length ≤ 1099511627776) :
    Calls Try.prog 15 #[.slice p xs.length c, .slice q ys.length d] w fun e w' => e = .returned (.bool (xs == ys)) ∧ ∃ n, w' = w.drewN n := by
  by_cases hl : xs.length = ys.length
  · rcases hx with rfl | ⟨b, o, rfl, hc⟩
    · obtain rfl : ys = [] := List.eq_nil_of_length_eq_zero hl.symm
      go_enter Try.func15, Try.ntmps15
      go_wp2
      refine wp_loop_rounds 1 ?_
      rw [rounds_succ]
      go_wp2
      go_ret
      exact ⟨rfl, 0, rfl⟩
    · rcases hy with rfl | ⟨b', o', rfl, hc'⟩
      · obtain rfl : xs = [] := List.eq_nil_of_length_eq_zero hl
        go_enter Try.func15, Try.ntmps15
        go_wp2
        refine wp_loop_rounds 1 ?_
        rw [rounds_succ]
        go_wp2
        go_ret
        exact ⟨rfl, 0, rfl⟩
      · have HL : Hid (xs.length = ys.length) := hl
        rw [← hl] at hc' ⊢
        generalize hn : xs.length = n at *
        have HN : Hid (xs.length = n) := hn
        clear hn hl
        go_enter Try.func15, Try.ntmps15
        go_wp2
        go_loopw [5] (fun i wr => ∃ k : Nat, k ≤ n ∧ i = .int .i64 k ∧ Hid (∀ j, j < k → xs.getD j 0 = ys.getD j 0) ∧ ∃ m, wr = w.drewN m) (fun i _ => n - (intOf i).toNat)
        case atStart => exact ⟨0, Nat.zero_le _, rfl, fun j hj => by omega, 0, rfl⟩
        case round =>
          obtain ⟨k, hk, rfl, HS, m, rfl⟩ := hrel
          by_cases hlt : k < n
          · have h1 := hc k hlt
            have h2 := hc' k hlt
            have hki : (k : Int) < (n : Int) := by omega
            clear hc hc'
            go_wp2
            go_quiet (fail)
            go_wp2
            · have hne : (xs[k]?.getD 0 != ys[k]?.getD 0) = true := by assumption
              go_ret
              refine ⟨?_, m + nq, by simp⟩
              show Ending.returned (.bool false) = _
              rw [beq_false_at hne]
            · have hne : (xs[k]?.getD 0 != ys[k]?.getD 0) = false := by assumption
              go_roundw
              case rel => exact ⟨k + 1, by omega, by go_num, eq_step HS hne, m + nq, by simp⟩
              case measure => simp [intOf]; omega
          · go_wp2
            go_ret
            obtain rfl : k = n := by omega
            refine ⟨?_, m, rfl⟩
            show Ending.returned (.bool true) = _
            rw [beq_true_at (HN.out.trans HL.out) (by rw [HN.out]; exact HS)]
  · have hne : ((xs.length : Int) != (ys.length : Int)) = true := by rw [bne_iff_ne]; omega
    go_enter Try.func15, Try.ntmps15
    go_wp2
    go_ret
    refine ⟨?_, 0, rfl⟩
    show Ending.returned (.bool false) = _
    rw [show (xs == ys) = false from by rw [beq_eq_false_iff_ne]; rintro rfl; exact hl rfl]
end Go.Proofs.Qxb6604185a
