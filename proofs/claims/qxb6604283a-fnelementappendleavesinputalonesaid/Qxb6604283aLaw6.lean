import Derived.Test.Qxb6604283aDecW
namespace Go.Proofs.Qxb6604283a
open Go.RowKit

/-- an owned row, written out -/
theorem own_form {w : World} {base : Nat} {v : Value} {xs : List Int} (h : w.ownsRow base 5 1 v xs.length (xs.map (Value.int .u8))) (hne : xs ≠ []) :
    ∃ g cap, v = .slice (some ⟨g, 0, none⟩) xs.length cap ∧ base ≤ g ∧ xs.length ≤ cap ∧ ∀ (i : Nat) x, xs[i]? = some x → w.cell? ⟨g, i, none⟩ = some (.int .u8 x) := by
  obtain ⟨_, ⟨_, h0⟩ | ⟨g, cap, cur, rfl, hg, hh, hn, _, hsz, htk⟩⟩ := h
  · exact absurd (List.eq_nil_of_length_eq_zero h0) hne
  · refine ⟨g, cap, rfl, hg, hn, fun i x hi => ?_⟩
    have hil := (List.getElem?_eq_some_iff.1 hi).1
    have h1 : (cur.toList.take (xs.length * 1))[i]? = some (.int .u8 x) := by
      rw [htk]
      simp [hi]
    rw [List.getElem?_take_of_lt (by omega)] at h1
    have : w.cell? ⟨g, i, none⟩ = cur[i]? := by simp [World.cell?, hh]
    rw [this]
    simpa using h1

theorem and3_all : ∀ n : Nat, n < 256 → bits .and .u8 (n : Int) 3 = ((n % 4 : Nat) : Int) := by decide +kernel

set_option maxHeartbeats 1000000 in
theorem bytes6_any (p q : Option Addr) (n c m d : Nat) (cls num : Int) (con : Bool) (w : World) :
    Calls Try.prog 6 #[.slice p n c, .int .u8 cls, .int .u32 num, .bool con, .slice q m d] w fun e w' => Says e (n ≤ 1048576 ∧ m ≤ 1048576) ∧ w' = w := by
  go_enter Try.func6, Try.ntmps6
  go_wp2
  all_goals go_ret
  all_goals first
    | exact ⟨Says.no, rfl⟩
    | exact ⟨Says.yes (by omega), rfl⟩

theorem TagOf.ne {fb num : Nat} {tg : List Int} (h : TagOf fb num tg) : tg ≠ [] := by
  rcases h with ⟨_, rfl⟩ | ⟨_, n, _, _, rfl⟩ <;> simp

set_option maxRecDepth 100000 in
set_option maxHeartbeats 2000000 in
theorem law6 (p q : Option Addr) (xs ys : List Int) (c d cls num : Nat) (con : Bool) (w : World) (hc : cls < 256) (hnum : num < 4294967296) (hx : BytesAt w p xs) (hy : BytesAt w q ys) :
    Calls Try.prog 3 #[.slice p xs.length c, .int .u8 (cls : Int), .int .u32 (num : Int), .bool con, .slice q ys.length d] w fun e w' => e = .returned (.bool true) ∧ Below w.heap.size w w' := by
  go_enter Try.func3, Try.ntmps3
  go_wp2_with fail
  refine (bytes6_any p q xs.length c ys.length d cls num con w).mono ?_
  rintro e w' ⟨⟨t, rfl, ht⟩, hw⟩
  obtain rfl : w = w' := hw.symm
  cases t
  · go_wp2
    go_ret
    exact ⟨rfl, Below.refl _ _⟩
  obtain ⟨b1, b2⟩ := ht rfl
  clear ht
  by_cases hbx : xs.length ≤ 524288
  case neg =>
    have h' : (524288 : Int) < (xs.length : Int) := by omega
    go_wp2_with fail
    go_ret
    exact ⟨rfl, Below.refl _ _⟩
  by_cases hby : ys.length ≤ 524288
  case neg =>
    have h' : (524288 : Int) < (ys.length : Int) := by omega
    go_wp2_with fail
    go_ret
    exact ⟨rfl, Below.refl _ _⟩
  go_wp2_with fail
  refine (clone_any p xs c w hx (by omega)).mono ?_
  rintro e w1 ⟨p1, rfl, hx1, hb1⟩
  go_wp2_with fail
  refine (clone_any q ys d w1 (hy.kept hb1) (by omega)).mono ?_
  rintro e w2 ⟨q1, rfl, hy2, hb2⟩
  have hx2 := hx1.kept hb2
  have hB2 : Below w.heap.size w w2 := hb1.trans (hb2.mono hb1.size)
  clear hx1 hb1 hb2 hx hy
  go_wp2_with fail
  refine (elem_any p1 q1 xs ys cls num con ys.length w2 hc hnum hx2 hy2 (by omega) (by omega) (fun h => by subst h; exact hx2.isNil) (fun h => by subst h; have := hy2.isNil; subst this; exact ⟨rfl, rfl⟩)).mono ?_
  rintro e w3 ⟨v', tg, lg, rfl, hT, hL, hown, hb3⟩
  have hne : xs ++ (tg ++ lg ++ ys) ≠ [] := by have := hT.ne; simp [this]
  obtain ⟨g, cap, hv, hg, hcap, hcell⟩ := own_form hown hne
  rw [hv]
  have hx3 := hx2.kept hb3
  have hy3 := hy2.kept hb3
  have hB3 := hB2.trans (hb3.mono hB2.size)
  have hTl : 1 ≤ tg.length := List.length_pos_iff.2 hT.ne
  have hN : (xs ++ (tg ++ lg ++ ys)).length = xs.length + (tg ++ lg ++ ys).length := by simp
  have hM1 : 1 ≤ (tg ++ lg ++ ys).length := by simp; omega
  have hM2 : (tg ++ lg ++ ys).length ≤ 524300 := by have := hT.short; have := hL.short; simp; omega
  have hcd := fun k => dec_any g xs.length q1 tg lg ys (cap - xs.length) ys.length cls num con (w3.drewN k) hnum (fun i x hi => by
    rw [World.cell?_drewN]
    refine hcell (xs.length + i) x ?_
    rw [List.getElem?_append_right (by omega), Nat.add_sub_cancel_left]
    exact hi) hy3 (by omega) hT hL
  have hcx : ∀ (i : Nat) x, xs[i]? = some x → w3.cell? ⟨g, i, none⟩ = some (.int .u8 x) := fun i x hi => hcell i x (by
    rw [List.getElem?_append_left (List.getElem?_eq_some_iff.1 hi).1]; exact hi)
  rw [hN] at hcap
  rw [hN]
  have e3 := and3_all cls hc
  generalize hMM : (tg ++ lg ++ ys).length = M at *
  clear hcell hown hv hne hN hMM hT hL hb3 hx2 hy2 hy3 hB2 hTl
  go_wp2_with fail
  go_loopw [12] (fun i wr => ∃ j k : Nat, j ≤ xs.length ∧ i = .int .i64 j ∧ wr = w3.drewN k) (fun i _ => xs.length - (intOf i).toNat)
  case atStart => exact ⟨0, 0, by omega, rfl, rfl⟩
  case round =>
    obtain ⟨j, k, hj, rfl, rfl⟩ := hrel
    by_cases hlt : j < xs.length
    · rcases hx3 with rfl | ⟨b', o', rfl, hc'⟩
      · simp at hlt
      have h1 := hc' j hlt
      have h2 := hcx j (xs.getD j 0) (by simp [List.getD, hlt])
      have hji : (j : Int) < (xs.length : Int) := by omega
      have hji2 : (j : Int) < ((xs.length + M : Nat) : Int) := by omega
      clear hc' hcx hcd
      go_wp2_with fail
      go_quiet (fail)
      go_wp2_with fail
      go_roundw
      case rel => exact ⟨j + 1, k + nq, by omega, by go_num, rfl⟩
      case measure => simp [intOf]; omega
    · obtain rfl : j = xs.length := by omega
      have hcd' := hcd k
      rw [show ((cls % 4 : Nat) : Int) = (cls : Int) % 4 from by omega] at hcd'
      clear hcx hx3 hcd
      go_wp2_with fail
      refine hcd'.mono ?_
      rintro e w5 ⟨rfl, n5, rfl⟩
      go_wp2_with fail
      go_ret
      exact ⟨rfl, below_drewN hB3 _⟩
end Go.Proofs.Qxb6604283a
