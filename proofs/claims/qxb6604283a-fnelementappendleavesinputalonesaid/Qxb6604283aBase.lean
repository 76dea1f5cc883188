import Derived.Test.Qxb6604283aRows
import Derived.WalkKit
import Derived.WalkSpells
import Derived.WalkLawsBesides
import Derived.Laws.CopyOwn
import Derived.ArgAppend
import Derived.Deep.QuietTactic
import Derived.BigQuiet
import Derived.RegionTactic
namespace Go.Proofs.Qxb6604283a
open Go.RowKit

/-- THE BYTES OF A SLICE: where there is one, the slice leads to an address of no spot, and its cells hold them; where there is none, whatever the address. -/
def BytesAt (w : World) (p : Option Addr) (xs : List Int) : Prop :=
  xs = [] ∨ ∃ b o, p = some ⟨b, o, none⟩ ∧ ∀ i, i < xs.length → w.cell? ⟨b, o + i, none⟩ = some (.int .u8 (xs.getD i 0))

/-- each number is a byte's -/
def Bytey (xs : List Int) : Prop := ∀ x ∈ xs, 0 ≤ x ∧ x < 256

theorem list_eq_getD {xs ys : List Int} (hl : xs.length = ys.length) (h : ∀ j, j < xs.length → xs.getD j 0 = ys.getD j 0) : xs = ys := by
  refine List.ext_getElem hl fun i h1 h2 => ?_
  have := h i h1
  simpa [List.getD, h1, h2] using this

theorem beq_false_at {xs ys : List Int} {k : Nat} (h : (xs[k]?.getD 0 != ys[k]?.getD 0) = true) : (xs == ys) = false := by
  rw [beq_eq_false_iff_ne]
  rintro rfl
  simp at h
theorem eq_step {xs ys : List Int} {k : Nat} (H : Hid (∀ j, j < k → xs.getD j 0 = ys.getD j 0)) (h : (xs[k]?.getD 0 != ys[k]?.getD 0) = false) : Hid (∀ j, j < k + 1 → xs.getD j 0 = ys.getD j 0) := by
  intro j hj
  rcases Nat.lt_succ_iff_lt_or_eq.1 hj with h' | rfl
  · exact H.out j h'
  · simpa [List.getD] using h
theorem beq_true_at {xs ys : List Int} (hl : xs.length = ys.length) (H : Hid (∀ j, j < xs.length → xs.getD j 0 = ys.getD j 0)) : (xs == ys) = true := by
  rw [beq_iff_eq]
  exact list_eq_getD hl H.out

set_option maxHeartbeats 400000 in
/-- zzBerB1Equal -/
theorem equal_any (p q : Option Addr) (xs ys : List Int) (c d : Nat) (w : World) (hx : BytesAt w p xs) (hy : BytesAt w q ys) (bl : xs.length ≤ 1099511627776) :
    Calls Try.prog 11 #[.slice p xs.length c, .slice q ys.length d] w fun e w' => e = .returned (.bool (xs == ys)) ∧ ∃ n, w' = w.drewN n := by
  by_cases hl : xs.length = ys.length
  · rcases hx with rfl | ⟨b, o, rfl, hc⟩
    · obtain rfl : ys = [] := List.eq_nil_of_length_eq_zero hl.symm
      go_enter Try.func11, Try.ntmps11
      go_wp2
      refine wp_loop_rounds 1 ?_
      rw [rounds_succ]
      go_wp2
      go_ret
      exact ⟨rfl, 0, rfl⟩
    · rcases hy with rfl | ⟨b', o', rfl, hc'⟩
      · obtain rfl : xs = [] := List.eq_nil_of_length_eq_zero hl
        go_enter Try.func11, Try.ntmps11
        go_wp2
        refine wp_loop_rounds 1 ?_
        rw [rounds_succ]
        go_wp2
        go_ret
        exact ⟨rfl, 0, rfl⟩
      · have HL : Hid (xs.length = ys.length) := hl
        rw [← hl] at hc' ⊢
        generalize hn : xs.length = n at *
        have HN : Hid (xs.length = n) := hn
        clear hn hl
        go_enter Try.func11, Try.ntmps11
        go_wp2
        go_loopw [5] (fun i wr => ∃ k : Nat, k ≤ n ∧ i = .int .i64 k ∧ Hid (∀ j, j < k → xs.getD j 0 = ys.getD j 0) ∧ ∃ m, wr = w.drewN m) (fun i _ => n - (intOf i).toNat)
        case atStart => exact ⟨0, Nat.zero_le _, rfl, fun j hj => by omega, 0, rfl⟩
        case round =>
          obtain ⟨k, hk, rfl, HS, m, rfl⟩ := hrel
          by_cases hlt : k < n
          · have h1 := hc k hlt
            have h2 := hc' k hlt
            have hki : (k : Int) < (n : Int) := by omega
            clear hc hc'
            go_wp2
            go_quiet (fail)
            go_wp2
            · have hne : (xs[k]?.getD 0 != ys[k]?.getD 0) = true := by assumption
              go_ret
              refine ⟨?_, m + nq, by simp⟩
              show Ending.returned (.bool false) = _
              rw [beq_false_at hne]
            · have hne : (xs[k]?.getD 0 != ys[k]?.getD 0) = false := by assumption
              go_roundw
              case rel => exact ⟨k + 1, by omega, by go_num, eq_step HS hne, m + nq, by simp⟩
              case measure => simp [intOf]; omega
          · go_wp2
            go_ret
            obtain rfl : k = n := by omega
            refine ⟨?_, m, rfl⟩
            show Ending.returned (.bool true) = _
            rw [beq_true_at (HN.out.trans HL.out) (by rw [HN.out]; exact HS)]
  · have hne : ((xs.length : Int) != (ys.length : Int)) = true := by rw [bne_iff_ne]; omega
    go_enter Try.func11, Try.ntmps11
    go_wp2
    go_ret
    refine ⟨?_, 0, rfl⟩
    show Ending.returned (.bool false) = _
    rw [show (xs == ys) = false from by rw [beq_eq_false_iff_ne]; rintro rfl; exact hl rfl]
theorem lt_of_cell {w : World} {b o : Nat} {v : Value} (h : w.cell? ⟨b, o, none⟩ = some v) : b < w.heap.size := by
  unfold World.cell? at h
  rcases Nat.lt_or_ge b w.heap.size with h' | h'
  · exact h'
  · simp [Array.getElem?_eq_none h'] at h

theorem BytesAt.isNil {w : World} {xs : List Int} (h : BytesAt w none xs) : xs = [] := by
  rcases h with rfl | ⟨b, o, h, _⟩
  · rfl
  · cases h

theorem BytesAt.stay {w w' : World} {p : Option Addr} {xs : List Int} (h : BytesAt w p xs) {B : Nat} (hb : Below B w w') (hp : ∀ a, p = some a → xs ≠ [] → a.block < B) : BytesAt w' p xs := by
  by_cases hn : xs = []
  · exact .inl hn
  rcases h with h | ⟨b, o, rfl, hc⟩
  · exact absurd h hn
  · refine .inr ⟨b, o, rfl, fun i hi => ?_⟩
    rw [hb.cell (p := ⟨b, o + i, none⟩) (show b < B from hp ⟨b, o, none⟩ rfl hn)]
    exact hc i hi

theorem BytesAt.lt {w : World} {a : Addr} {xs : List Int} (h : BytesAt w (some a) xs) (hn : xs ≠ []) : a.block < w.heap.size := by
  rcases h with h | ⟨b, o, h, hc⟩
  · exact absurd h hn
  · obtain rfl := Option.some.inj h
    exact lt_of_cell (hc 0 (List.length_pos_iff.2 hn))

theorem BytesAt.kept {w w' : World} {p : Option Addr} {xs : List Int} (h : BytesAt w p xs) (hb : Below w.heap.size w w') : BytesAt w' p xs :=
  h.stay hb (fun a e hn => by subst e; exact h.lt hn)

theorem bytesAt_new (w : World) (xs : List Int) : BytesAt (w.alloc (.cells (xs.map (Value.int .u8)).toArray 5)) (some ⟨w.heap.size, 0, none⟩) xs := by
  refine .inr ⟨_, _, rfl, fun i hi => ?_⟩
  rw [Nat.zero_add, World.cell?_alloc_at _ _ _ _ rfl]
  simp [List.getD, hi]


theorem Try.info5 : (Try.prog.info? 5).map (fun i => (i.zero, i.size, i.bytes)) = some (some (.int .u8 0), 1, 1) := by kernel_rfl
theorem Try.size5 : (Try.prog.info? 5).map (·.size) = some 1 := by kernel_rfl

theorem setRow_alloc (w : World) (C D : Array Value) (t : TypeId) : (w.alloc (.cells C t)).setRow w.heap.size D = w.alloc (.cells D t) := by
  unfold World.setRow World.alloc
  congr 1
  apply Array.ext_getElem?
  intro k
  simp only [Array.getElem?_modify, Array.getElem?_push]
  by_cases hk : k = w.heap.size
  · subst hk
    simp
  · simp [Ne.symm hk, hk]

set_option maxHeartbeats 400000 in
/-- zzBerB1Clone -/
theorem clone_some (a : Addr) (xs : List Int) (c : Nat) (w : World) (hx : BytesAt w (some a) xs) (bl : xs.length ≤ 1099511627776) :
    Calls Try.prog 7 #[.slice (some a) xs.length c] w fun e w' => e = .returned (.slice (some ⟨w.heap.size, 0, none⟩) xs.length xs.length) ∧ w' = w.alloc (.cells (xs.map (Value.int .u8)).toArray 5) := by
  obtain ⟨i0, hi, hz0, hz1, hz2⟩ := info_parts Try.info5
  have q22 : ∀ (w : World) (a : Option Addr) (n c n' c' : Nat), (binOp .eql 22 (.slice a n c) (.slice none n' c')).run Try.prog w = .ok (.bool a.isNone) w := fun w a n c n' c' => Lib.run_eql_slice_nil w _ _ a n c n' c' Try.underlying22
  have hmk := run_make (P := Try.prog) w 22 5 i0 (.int .u8 0) Try.underlying22 hi hz0 .i64 .i64 (xs.length : Int) (xs.length : Int) (by omega) (by omega) (by rw [hz2]; omega) (by omega)
  rw [hz1, Nat.mul_one, Int.toNat_natCast] at hmk
  have hsz := size_madeCells (Value.int .u8 0).cells xs.length
  generalize madeCells (Value.int .u8 0).cells xs.length = C0 at *
  clear hz0 hz1 hz2 hi
  go_enter Try.func7, Try.ntmps7
  go_wp2_with (refine wpList_copy_own rfl _ _ 22 22 rfl 5 Try.underlying22 Try.size5 w.heap.size 0 xs.length xs.length a xs.length c rfl rfl C0 5 ?hg (xs.map (Value.int .u8)) ?hn ?hsrc ?hfit (ints_oneCell _ _) ?_)
  case hg => show (w.heap.push _)[w.heap.size]? = _; simp
  case hn => simp
  case hfit => simp [hsz]
  case hsrc =>
    intro j v hj
    rcases hx with rfl | ⟨b, o, ha, hc⟩
    · simp at hj
    · obtain rfl : a = ⟨b, o, none⟩ := Option.some.inj ha
      simp at hj
      obtain ⟨y, hy, rfl⟩ := hj
      have hjl := (List.getElem?_eq_some_iff.1 hy).1
      have h1 := hc j hjl
      rw [Addr.add_lit, World.cell?_alloc_past _ _ _ (lt_of_cell h1), h1]
      simp [List.getD, hy]
  go_ret
  refine ⟨rfl, ?_⟩
  rw [setRow_alloc, List.drop_eq_nil_of_le (by simp [hsz]), List.append_nil]

set_option maxHeartbeats 400000 in
theorem clone_nil (w : World) (c : Nat) : Calls Try.prog 7 #[.slice none 0 c] w fun e w' => e = .returned (.slice none 0 0) ∧ w' = w := by
  have q22 : ∀ (w : World) (a : Option Addr) (n c n' c' : Nat), (binOp .eql 22 (.slice a n c) (.slice none n' c')).run Try.prog w = .ok (.bool a.isNone) w := fun w a n c n' c' => Lib.run_eql_slice_nil w _ _ a n c n' c' Try.underlying22
  go_enter Try.func7, Try.ntmps7
  go_wp2
  go_ret
  exact ⟨rfl, rfl⟩

/-- zzBerB1Clone, whatever the slice -/
theorem clone_any (p : Option Addr) (xs : List Int) (c : Nat) (w : World) (hx : BytesAt w p xs) (bl : xs.length ≤ 1099511627776) :
    Calls Try.prog 7 #[.slice p xs.length c] w fun e w' => ∃ p' : Option Addr, e = .returned (.slice p' xs.length xs.length) ∧ BytesAt w' p' xs ∧ Below w.heap.size w w' := by
  cases p with
  | none =>
    obtain rfl := hx.isNil
    refine (clone_nil w c).mono ?_
    rintro e w' ⟨rfl, rfl⟩
    exact ⟨none, rfl, .inl rfl, Below.refl _ _⟩
  | some a =>
    refine (clone_some a xs c w hx bl).mono ?_
    rintro e w' ⟨rfl, rfl⟩
    exact ⟨_, rfl, bytesAt_new w xs, (Below.refl _ _).alloc (Nat.le_refl _) _⟩

/-- e returns a bool; if it is true then P -/
def Says (e : Ending) (P : Prop) : Prop := ∃ t : Bool, e = .returned (.bool t) ∧ (t = true → P)
theorem Says.no {P : Prop} : Says (.returned (.bool false)) P := ⟨false, rfl, fun h => by cases h⟩
theorem Says.yes {P : Prop} (h : P) : Says (.returned (.bool true)) P := ⟨true, rfl, fun _ => h⟩

end Go.Proofs.Qxb6604283a
