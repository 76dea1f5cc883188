import Derived.Test.Qxb6604185aNumLaw
namespace Go.Proofs.Qxb6604185a
open Go.RowKit

theorem same_true {p q : Option Addr} {xs : List Int} (h : p.isNone = q.isNone) : (p.isNone == q.isNone && xs == xs) = true := by rw [h]; simp

set_option maxRecDepth 100000 in
set_option maxHeartbeats 1600000 in
theorem num_walk (p q : Option Addr) (xs ys : List Int) (c d : Nat) (pos dp : Int) (sp : Bool) (w : World) (hx : BytesAt w p xs) (hy : BytesAt w q ys) (bx : Bytey xs) (hpos : pos ≤ 9223372036854775807) :
    Calls Try.prog 3 #[.slice p xs.length c, .int .i64 pos, .int .i64 dp, .bool sp, .slice q ys.length d] w fun e w' => e = .returned (.bool true) ∧ Below w.heap.size w w' := by
  go_enter Try.func3, Try.ntmps3
  go_wp2_with fail
  refine (bytesN_any p q xs.length c ys.length d pos dp sp w).mono ?_
  rintro e w' ⟨⟨t, rfl, ht⟩, hw⟩
  obtain rfl : w = w' := hw.symm
  cases t
  · go_wp2
    go_ret
    exact ⟨rfl, Below.refl _ _⟩
  obtain ⟨bl, bl2, bl3⟩ := ht rfl
  clear ht
  by_cases h0 : pos < 0
  · go_wp2_with fail
    go_ret
    exact ⟨rfl, Below.refl _ _⟩
  obtain ⟨k, rfl⟩ := Int.eq_ofNat_of_zero_le (Int.not_lt.1 h0)
  clear h0
  have hk : k ≤ 9223372036854775807 := by omega
  clear hpos
  go_wp2_with fail
  refine (clone_any p xs c w hx (by omega)).mono ?_
  rintro e w1 ⟨p1, rfl, hp1, hx1, hb1, _⟩
  go_wp2_with fail
  refine (clone_any q ys d w1 (hy.kept hb1) (by omega)).mono ?_
  rintro e w2 ⟨q1, rfl, hq1, hy2, hb2, _⟩
  have hx2 := hx1.kept hb2
  go_wp2_with fail
  refine (clone_any p1 xs xs.length w2 hx2 (by omega)).mono ?_
  rintro e w3 ⟨p2, rfl, hp2, hx3, hb3, _⟩
  have hx13 := hx2.kept hb3
  have hy3 := hy2.kept hb3
  go_wp2_with fail
  refine (clone_any q1 ys ys.length w3 hy3 (by omega)).mono ?_
  rintro e w4 ⟨q2, rfl, hq2, hy24, hb4, _⟩
  have hx14 := hx13.kept hb4
  have hx24 := hx3.kept hb4
  have hy14 := hy3.kept hb4
  have hB4 : Below w.heap.size w w4 := ((hb1.trans (hb2.mono hb1.size)).trans (hb3.mono (Nat.le_trans hb1.size hb2.size))).trans (hb4.mono (Nat.le_trans (Nat.le_trans hb1.size hb2.size) hb3.size))
  have HP : Hid (p2.isNone = p1.isNone) := hp2
  have HQ : Hid (q2.isNone = q1.isNone) := hq2
  clear hx1 hb1 hb2 hx2 hb3 hx13 hy3 hb4 hx3 hy2 hx hy hp1 hq1 hp2 hq2
  go_wp2_with fail
  refine (scan_any p1 q1 xs xs.length k ys.length ys.length dp sp w4 hx14 bl).mono ?_
  rintro e w5 ⟨rfl, hb5⟩
  have hx15 := hx14.kept hb5
  have hx25 := hx24.kept hb5
  have hy15 := hy14.kept hb5
  have hy25 := hy24.kept hb5
  have hB5 := hB4.trans (hb5.mono hB4.size)
  clear hx14 hx24 hy14 hy24 hB4 hb5
  go_wp2_with fail
  refine (model_any p2 xs xs.length k w5 hx25 bx bl hk).mono ?_
  rintro e w' ⟨rfl, hw⟩
  obtain rfl : w5 = w' := hw.symm
  generalize (numF xs k).1 = okb
  generalize (numF xs k).2 = pe
  go_wp2_with fail
  refine (same_any p1 p2 xs xs xs.length xs.length w5 hx15 hx25 (by omega)).mono ?_
  rintro e w6 ⟨rfl, n6, rfl⟩
  rw [same_true HP.out.symm]
  go_wp2_with fail
  refine (same_any p1 p2 xs xs xs.length xs.length (w5.drewN n6) hx15 hx25 (by omega)).mono ?_
  rintro e w6 ⟨rfl, n7, rfl⟩
  rw [same_true HP.out.symm]
  go_wp2_with fail
  refine (same_any q1 q2 ys ys ys.length ys.length (w5.drewN (n6 + n7)) hy15 hy25 (by omega)).mono ?_
  rintro e w6 ⟨rfl, n8, rfl⟩
  rw [same_true HQ.out.symm]
  go_wp2_with fail
  refine (same_any q1 q2 ys ys ys.length ys.length (w5.drewN (n6 + n7 + n8)) hy15 hy25 (by omega)).mono ?_
  rintro e w6 ⟨rfl, n9, rfl⟩
  rw [same_true HQ.out.symm]
  go_wp2_with fail
  go_ret
  refine ⟨rfl, ?_⟩
  exact below_drewN hB5 _
end Go.Proofs.Qxb6604185a
