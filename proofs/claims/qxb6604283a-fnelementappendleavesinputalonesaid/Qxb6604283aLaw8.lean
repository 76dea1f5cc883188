import Derived.Test.Qxb6604283aElt2
import Derived.Test.Qxb6604283aElem
import Derived.Test.Qxb6604283aLaw6
namespace Go.Proofs.Qxb6604283a
open Go.RowKit

/-- a piece of a slice's bytes -/
theorem BytesAt.piece {w : World} {p A : Option Addr} {xs : List Int} (h : BytesAt w p xs) (s rl : Nat) (hl : s + rl ≤ xs.length) (hA : (if s + rl = s then p else Option.map (fun x => x.add s) p) = A) : BytesAt w A ((xs.drop s).take rl) := by
  by_cases h0 : rl = 0
  · subst h0
    exact .inl (by simp)
  · rw [if_neg (by omega)] at hA
    rcases h with rfl | ⟨b, o, rfl, hc⟩
    · simp at hl
      omega
    · subst hA
      refine .inr ⟨b, o + s, by simp [Addr.add], fun i hi => ?_⟩
      simp at hi
      rw [Nat.add_assoc, hc (s + i) (by omega)]
      simp [List.getD, List.getElem?_drop, show i < rl by omega]

theorem piece_none {p A : Option Addr} {xs : List Int} {w : World} (h : BytesAt w p xs) (s rl : Nat) (hl : s + rl ≤ xs.length) (hA : (if s + rl = s then p else Option.map (fun x => x.add s) p) = A) : A = none → rl = 0 := by
  intro h0
  subst h0
  by_cases h0 : rl = 0
  · exact h0
  · rw [if_neg (by omega)] at hA
    simp at hA
    subst hA
    have := h.isNil
    subst this
    simp at hl
    omega

theorem piece_at {xs : List Int} {s rl i : Nat} (hi : i < rl) (hl : s + rl ≤ xs.length) (y : Int) : ((xs.drop s).take rl ++ [y])[i]? = some (xs.getD (s + i) 0) := by
  rw [List.getElem?_append_left (by simp; omega), List.getElem?_take_of_lt hi, List.getElem?_drop]
  simp [List.getD, List.getElem?_eq_getElem (show s + i < xs.length by omega)]

theorem piece_last {xs : List Int} {s rl : Nat} (hl : s + rl ≤ xs.length) (y : Int) : ((xs.drop s).take rl ++ [y])[rl]? = some y := by
  rw [List.getElem?_append_right (by simp; omega)]
  simp
  have : rl - min rl (xs.length - s) = 0 := by omega
  simp [this]

theorem piece_len {xs : List Int} {s rl : Nat} (hl : s + rl ≤ xs.length) (y : Int) : ((xs.drop s).take rl ++ [y]).length = rl + 1 := by
  simp
  omega

set_option maxHeartbeats 1000000 in
theorem bytes8_any (p : Option Addr) (n c : Nat) (base cls num len size start ce en : Int) (con ind : Bool) (w : World) :
    Calls Try.prog 12 #[.slice p n c, .int .i64 base, .int .u8 cls, .int .u32 num, .bool con, .bool ind, .int .i64 len, .int .i64 size, .int .i64 start, .int .i64 ce, .int .i64 en] w fun e w' => Says e (n ≤ 1048576) ∧ w' = w := by
  go_enter Try.func12, Try.ntmps12
  go_wp2
  all_goals go_ret
  all_goals first
    | exact ⟨Says.no, rfl⟩
    | exact ⟨Says.yes (by omega), rfl⟩

set_option maxRecDepth 100000 in
set_option maxHeartbeats 3000000 in
theorem law8 (p : Option Addr) (xs : List Int) (c : Nat) (base cls num len size start ce en : Int) (con ind : Bool) (w : World) (hx : BytesAt w p xs) :
    Calls Try.prog 5 #[.slice p xs.length c, .int .i64 base, .int .u8 cls, .int .u32 num, .bool con, .bool ind, .int .i64 len, .int .i64 size, .int .i64 start, .int .i64 ce, .int .i64 en] w fun e w' => e = .returned (.bool true) ∧ Below w.heap.size w w' := by
  go_enter Try.func5, Try.ntmps5
  go_wp2_with fail
  refine (bytes8_any p xs.length c base cls num len size start ce en con ind w).mono ?_
  rintro e w' ⟨⟨t, rfl, ht⟩, hw⟩
  obtain rfl : w = w' := hw.symm
  cases t
  · go_wp2
    go_ret
    exact ⟨rfl, Below.refl _ _⟩
  have hbx := ht rfl
  clear ht
  by_cases a1 : start < 0
  · go_wp2_with fail
    go_ret
    exact ⟨rfl, Below.refl _ _⟩
  obtain ⟨s, rfl⟩ : ∃ s : Nat, start = s := ⟨start.toNat, by omega⟩
  clear a1
  by_cases a2 : xs.length < s
  · have a2' : (xs.length : Int) < (s : Int) := by omega
    go_wp2_with fail
    go_ret
    exact ⟨rfl, Below.refl _ _⟩
  replace a2 : s ≤ xs.length := by omega
  by_cases a3 : en < (s : Int)
  · go_wp2_with fail
    go_ret
    exact ⟨rfl, Below.refl _ _⟩
  obtain ⟨rl, rfl⟩ : ∃ rl : Nat, en = ((s + rl : Nat) : Int) := ⟨(en - s).toNat, by omega⟩
  clear a3
  by_cases a4 : xs.length < s + rl
  · have a4' : (xs.length : Int) < (s : Int) + (rl : Int) := by omega
    go_wp2_with fail
    go_ret
    exact ⟨rfl, Below.refl _ _⟩
  replace a4 : s + rl ≤ xs.length := by omega
  by_cases a5 : size < 0
  · go_wp2_with fail
    go_ret
    exact ⟨rfl, Below.refl _ _⟩
  obtain ⟨z, rfl⟩ : ∃ z : Nat, size = z := ⟨size.toNat, by omega⟩
  clear a5
  by_cases a6 : (xs.length : Int) - (s : Int) < (z : Int)
  · go_wp2_with fail
    go_ret
    exact ⟨rfl, Below.refl _ _⟩
  have a6' : s + z ≤ xs.length := by omega
  by_cases a7 : ce < (s : Int) + (z : Int)
  · go_wp2_with fail
    go_ret
    exact ⟨rfl, Below.refl _ _⟩
  obtain ⟨cl, rfl⟩ : ∃ cl : Nat, ce = ((s + z + cl : Nat) : Int) := ⟨(ce - s - z).toNat, by omega⟩
  clear a7
  by_cases a8 : xs.length < s + z + cl
  · have a8' : (xs.length : Int) < (s : Int) + (z : Int) + (cl : Int) := by omega
    go_wp2_with fail
    go_ret
    exact ⟨rfl, Below.refl _ _⟩
  replace a8 : s + z + cl ≤ xs.length := by omega
  go_wp2_with fail
  refine (clone_any p xs c w hx (by omega)).mono ?_
  rintro e w1 ⟨p1, rfl, hx1, hb1⟩
  go_wp2_with fail
  refine (clone_any p1 xs xs.length w1 hx1 (by omega)).mono ?_
  rintro e w2 ⟨q1, rfl, hy2, hb2⟩
  have hx2 := hx1.kept hb2
  have hB2 : Below w.heap.size w w2 := hb1.trans (hb2.mono hb1.size)
  clear hx1 hb1 hb2 hx
  obtain ⟨A1, hA1⟩ : ∃ A, (if s + rl = s then p1 else Option.map (fun x => x.add s) p1) = A := ⟨_, rfl⟩
  obtain ⟨A2, hA2⟩ : ∃ A, (if s + z + cl = s + z then p1 else Option.map (fun x => x.add (s + z)) p1) = A := ⟨_, rfl⟩
  have hel := zzElement_any p1 xs.length xs.length base cls num len con ind s z (s + z + cl) (s + rl) w2 A1 A2 hA1 hA2 (by omega) a4 (by omega) a8 hbx
  have HP1 : Hid (BytesAt w2 A1 ((xs.drop s).take rl)) := hx2.piece s rl a4 hA1
  have HP2 : Hid (BytesAt w2 A2 ((xs.drop (s + z)).take cl)) := hx2.piece (s + z) cl a8 hA2
  have HN1 : Hid (A1 = none → rl = 0) := piece_none hx2 s rl a4 hA1
  have HN2 : Hid (A2 = none → cl = 0) := piece_none hx2 (s + z) cl a8 hA2
  rw [Nat.add_sub_cancel_left, Nat.add_sub_cancel_left] at hel
  clear hA1 hA2
  go_wp2_with fail
  refine hel.mono ?_
  rintro e w3 ⟨⟨off, rfl⟩, hb3⟩
  have hx3 := hx2.kept hb3
  have hy3 := hy2.kept hb3
  have hB3 := hB2.trans (hb3.mono hB2.size)
  have hP1 := HP1.out.kept hb3
  have hP2 := HP2.out.kept hb3
  clear hel hx2 hy2 hB2 HP1 HP2 hb3
  obtain ⟨i0, hi, hz0, hz1, hz2⟩ := info_parts Try.info5
  have hl1 : ((xs.drop s).take rl).length = rl := by simp; omega
  have hl2 : ((xs.drop (s + z)).take cl).length = cl := by simp; omega
  generalize hR : (xs.drop s).take rl = R at *
  generalize hC : (xs.drop (s + z)).take cl = C at *
  have HR : Hid ((xs.drop s).take rl = R) := hR
  have HC : Hid ((xs.drop (s + z)).take cl = C) := hC
  clear hR hC
  unfold eltOf
  go_wp2_with (at_builtin; refine wpList_append_grows _ rfl _ _ 22 rfl 5 i0 (.int .u8 0) 1 1 Try.underlying22 hi hz0 hz1 hz2 rfl (by decide) A1 rl rl (R.map (Value.int .u8)) rfl ?c1 ?c0 ?c5 ⟨w3.heap.size + 1, 0, none⟩ 1 1 [.int .u8 165] rfl rfl ?c2 (ints_oneCell .u8 [165]) (by omega) ?c3 ?c4 ?_)
  case c1 => intro h; simp [HN1.out h]
  case c0 => simp [hl1]
  case c5 => exact ((hP1.kept ((Below.refl _ _).alloc (Nat.le_refl _) _)).kept ((Below.refl _ _).alloc (Nat.le_refl _) _)).holds
  case c2 => exact cell_two_new' w3 _ _ 5
  case c3 => unfold maxLen; omega
  case c4 => omega
  intro v1 w4 hown' hgr
  have hb4 : Below w3.heap.size w3 w4 := (((Below.refl _ _).alloc (Nat.le_refl _) _).alloc (by simp) _).grown hgr (by simp; omega) (fun j hj => by cases hj)
  have hE1 : w4.ownsRow w3.heap.size 5 1 v1 (R ++ [165]).length ((R ++ [165]).map (Value.int .u8)) := by
    subst hl1
    refine own_snoc (own_mono hown' ?_)
    first | omega | (simp; omega) | simp
  have hcts : w4.cell? ⟨w3.heap.size, 6, none⟩ = some (.slice A2 cl cl) := by
    rw [World.cell?_of_block (hgr.block w3.heap.size (by simp; try omega) (by simp)), World.cell?_alloc_past _ _ _ (by simp), World.cell?_alloc_at _ _ _ _ rfl]
    rfl
  obtain ⟨g1, cap1, hv1, hg1, hcap1, hcell1⟩ := own_form hE1 (by simp)
  rw [show (R ++ [(165 : Int)]).length = rl + 1 by simp [hl1]] at hv1 hcap1
  have hA : ∀ i, i < rl → w4.cell? ⟨g1, i, none⟩ = some (.int .u8 (xs.getD (s + i) 0)) := fun i hi => hcell1 i _ (by rw [← HR.out]; exact piece_at hi a4 _)
  have hAl : w4.cell? ⟨g1, rl, none⟩ = some (.int .u8 165) := hcell1 rl _ (by rw [← HR.out]; exact piece_last a4 _)
  rw [hv1]
  have hx4 := hx3.kept hb4
  have hy4 := hy3.kept hb4
  have hP4 := hP2.kept hb4
  have hB4 := hB3.trans (hb4.mono hB3.size)
  clear hx3 hy3 hP2 hP1 hB3 hb4 hE1 hown' hgr hcell1 hv1 hg1 HR hl1 HN1
  go_wp2_with (at_builtin; refine wpList_append_grows _ rfl _ _ 22 rfl 5 i0 (.int .u8 0) 1 1 Try.underlying22 hi hz0 hz1 hz2 rfl (by decide) A2 cl cl (C.map (Value.int .u8)) rfl ?c1 ?c0 ?c5 ⟨w4.heap.size, 0, none⟩ 1 1 [.int .u8 90] rfl rfl ?c2 (ints_oneCell .u8 [90]) (by omega) ?c3 ?c4 ?_)
  case c1 => intro h; simp [HN2.out h]
  case c0 => simp [hl2]
  case c5 => exact (hP4.kept ((Below.refl _ _).alloc (Nat.le_refl _) _)).holds
  case c2 => exact cell_one_new w4 _ 5
  case c3 => unfold maxLen; omega
  case c4 => omega
  intro v2 w5 hown' hgr
  have hb5 : Below w4.heap.size w4 w5 := ((Below.refl _ _).alloc (Nat.le_refl _) _).grown hgr (by simp) (fun j hj => by cases hj)
  have hE2 : w5.ownsRow w4.heap.size 5 1 v2 (C ++ [90]).length ((C ++ [90]).map (Value.int .u8)) := by
    subst hl2
    refine own_snoc (own_mono hown' ?_)
    first | omega | (simp; omega) | simp
  obtain ⟨g2, cap2, hv2, hg2, hcap2, hcell2⟩ := own_form hE2 (by simp)
  rw [show (C ++ [(90 : Int)]).length = cl + 1 by simp [hl2]] at hv2 hcap2
  have hD : ∀ i, i < cl → w5.cell? ⟨g2, i, none⟩ = some (.int .u8 (xs.getD (s + z + i) 0)) := fun i hi => hcell2 i _ (by rw [← HC.out]; exact piece_at hi a8 _)
  have hDl : w5.cell? ⟨g2, cl, none⟩ = some (.int .u8 90) := hcell2 cl _ (by rw [← HC.out]; exact piece_last a8 _)
  have hA5 : ∀ i, i < rl → w5.cell? ⟨g1, i, none⟩ = some (.int .u8 (xs.getD (s + i) 0)) := fun i hi => by rw [hb5.cell (p := ⟨g1, i, none⟩) (lt_of_cell (hA i hi))]; exact hA i hi
  have hAl5 : w5.cell? ⟨g1, rl, none⟩ = some (.int .u8 165) := by rw [hb5.cell (p := ⟨g1, rl, none⟩) (lt_of_cell hAl)]; exact hAl
  rw [hv2]
  have hx5 := hx4.kept hb5
  have hy5 := hy4.kept hb5
  have hB5 := hB4.trans (hb5.mono hB4.size)
  clear hx4 hy4 hP4 hB4 hb5 hE2 hown' hgr hcell2 hv2 hg2 HC hl2 HN2 hA hAl hcts hi hz0 hz1 hz2
  have HA5 : Hid (∀ i, i < rl → w5.cell? ⟨g1, i, none⟩ = some (.int .u8 (xs.getD (s + i) 0))) := hA5
  have HD : Hid (∀ i, i < cl → w5.cell? ⟨g2, i, none⟩ = some (.int .u8 (xs.getD (s + z + i) 0))) := hD
  have HY : Hid (BytesAt w5 q1 xs) := hy5
  clear hA5 hD
  have heq := equal_any p1 q1 xs xs xs.length xs.length w5 hx5 hy5 (by omega)
  rw [beq_self_eq_true] at heq
  clear hx5 hy5
  go_wp2_with fail
  refine heq.mono ?_
  rintro e w6 ⟨rfl, n6, rfl⟩
  clear heq
  go_upto_region 21 with (fail)
  rw [show (s : Int) + (rl : Int) - (s : Int) = (rl : Int) by omega]
  go_wp2_with fail
  go_loopw [29] (fun i wr => ∃ k m : Nat, k ≤ rl ∧ i = .int .i64 k ∧ wr = w5.drewN m) (fun i _ => rl - (intOf i).toNat)
  case atStart => exact ⟨0, n6, Nat.zero_le _, rfl, rfl⟩
  case round =>
    obtain ⟨k, m, hk, rfl, rfl⟩ := hrel
    by_cases hlt : k < rl
    · obtain ⟨b, o, hq, hc⟩ := HY.out.resolve_left (fun h => by subst h; simp at a4; omega)
      subst hq
      have h1 := HA5.out k hlt
      have h2 := hc (s + k) (by omega)
      have hki : (k : Int) < (rl : Int) := by omega
      have hk1 : (k : Int) < (rl : Int) + 1 := by omega
      have hsk : (s : Int) + (k : Int) < (xs.length : Int) := by omega
      have hsk0 : 0 ≤ (s : Int) + (k : Int) := by omega
      have hsk1 : ((s : Int) + (k : Int)).toNat = s + k := by omega
      generalize xs.getD (s + k) 0 = y at h1 h2
      clear hc
      go_wp2_with fail
      go_quiet (fail)
      go_wp2_with fail
      go_roundw
      case rel => exact ⟨k + 1, m + nq, by omega, by go_num, by simp⟩
      case measure => simp [intOf]; omega
    · go_upto_region 29 with (fail)
      rw [show (s : Int) + (z : Int) + (cl : Int) - (s : Int) - (z : Int) = (cl : Int) by omega]
      go_wp2_with fail
      go_loopw [31] (fun i wr => ∃ k m : Nat, k ≤ cl ∧ i = .int .i64 k ∧ wr = w5.drewN m) (fun i _ => cl - (intOf i).toNat)
      case atStart => exact ⟨0, m, Nat.zero_le _, rfl, rfl⟩
      case round =>
        obtain ⟨k2, m2, hk2, rfl, rfl⟩ := hrel
        by_cases hlt2 : k2 < cl
        · obtain ⟨b, o, hq, hc⟩ := HY.out.resolve_left (fun h => by subst h; simp at a8; omega)
          subst hq
          have h1 := HD.out k2 hlt2
          have h2 := hc (s + z + k2) (by omega)
          have hki : (k2 : Int) < (cl : Int) := by omega
          have hk1 : (k2 : Int) < (cl : Int) + 1 := by omega
          have hsk : (s : Int) + (z : Int) + (k2 : Int) < (xs.length : Int) := by omega
          have hsk0 : 0 ≤ (s : Int) + (z : Int) + (k2 : Int) := by omega
          have hsk1 : ((s : Int) + (z : Int) + (k2 : Int)).toNat = s + z + k2 := by omega
          generalize xs.getD (s + z + k2) 0 = y at h1 h2
          clear hc
          go_wp2_with fail
          go_quiet (fail)
          go_wp2_with fail
          go_roundw
          case rel => exact ⟨k2 + 1, m2 + nq, by omega, by go_num, by simp⟩
          case measure => simp [intOf]; omega
        · go_wp2_with fail
          go_ret
          exact ⟨rfl, below_drewN hB5 _⟩
end Go.Proofs.Qxb6604283a
