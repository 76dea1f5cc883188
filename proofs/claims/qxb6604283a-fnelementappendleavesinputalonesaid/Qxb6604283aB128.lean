import Derived.Test.Qxb6604283aBase
import Derived.Test.Qxb6604283aBits
namespace Go.Proofs.Qxb6604283a
open Go.RowKit

theorem pow_le5 {v k : Nat} (hv : v < 4294967296) (hk : k ≤ 5) (h : 0 < v / 128 ^ k) : k ≤ 4 := by
  rcases Nat.lt_or_ge k 5 with h' | h'
  · omega
  · obtain rfl : k = 5 := by omega
    have : v / 128 ^ 5 = 0 := Nat.div_eq_of_lt (by omega)
    omega

theorem own_snoc {w : World} {base : Nat} {v : Value} {xs : List Int} {y : Int} (h : w.ownsRow base 5 1 v (xs.length + 1) (xs.map (Value.int .u8) ++ [.int .u8 y])) : w.ownsRow base 5 1 v (xs ++ [y]).length ((xs ++ [y]).map (Value.int .u8)) := by
  simpa using h

theorem ownBlock_ge {w : World} {base : Nat} {e : TypeId} {size : Nat} {v : Value} {n : Nat} {xs : List Value} (h : w.ownsRow base e size v n xs) {k : Nat} (hk : v.ownBlock = some k) : base ≤ k := by
  obtain ⟨_, ⟨rfl, _⟩ | ⟨g, cap, cur, rfl, hg, _⟩⟩ := h
  · cases hk
  · cases hk
    exact hg

set_option maxHeartbeats 1000000 in
/-- appendBase128, onto a row of the call's own -/
theorem b128_any (base : Nat) (vb : Value) (xs : List Int) (v : Nat) (w : World) (hv : v < 4294967296) (hown : w.ownsRow base 5 1 vb xs.length (xs.map (Value.int .u8))) (hb : base ≤ w.heap.size) (hl : xs.length ≤ 1073741824) :
    Calls Try.prog 14 #[vb, .int .u64 (v : Int)] w fun e w' => ∃ (v' : Value) (n : Nat), e = .returned v' ∧ n ≤ 5 ∧ Digs 128 v n ∧ (let ys := xs ++ ups 128 128 v n (n - 1) ++ [((dg 128 v 0 : Nat) : Int)]; w'.ownsRow base 5 1 v' ys.length (ys.map (Value.int .u8))) ∧ Below base w w' := by
  obtain ⟨i0, hi, hz0, hz1, hz2⟩ := info_parts Try.info5
  go_enter Try.func14, Try.ntmps14
  go_wp2
  go_loop [5, 6] (fun n s => ∃ k x : Nat, 1 ≤ k ∧ k ≤ 5 ∧ n = .int .i64 k ∧ s = .int .u64 x ∧ Hid (x = v / 128 ^ k) ∧ Hid (k = 1 ∨ 128 ^ (k - 1) ≤ v)) (fun _ x => (intOf x).toNat)
  case atStart => exact ⟨1, v / 128, by omega, by omega, rfl, by go_num, rfl, .inl rfl⟩
  case round =>
    obtain ⟨k, x, h1, h5, rfl, rfl, HX, HK⟩ := hrel
    by_cases hm : 0 < x
    · have hm' : 0 < v / 128 ^ k := HX.out ▸ hm
      have h4 := pow_le5 hv h5 hm'
      have HX' : Hid (x / 128 = v / 128 ^ (k + 1)) := by show _ = _; rw [HX.out, Nat.div_div_eq_div_mul, Nat.pow_succ]
      have HK' : Hid (k + 1 = 1 ∨ 128 ^ (k + 1 - 1) ≤ v) := .inr (by
        rw [Nat.add_sub_cancel]
        exact (Nat.div_pos_iff.1 hm').2)
      clear hm' HX HK
      go_wp2
      go_round
      case rel => exact ⟨k + 1, x / 128, by omega, by omega, by go_num, by go_num, HX', HK'⟩
      case measure => simp [intOf]; omega
    · obtain rfl : x = 0 := by omega
      have HD : Hid (Digs 128 v k) := ⟨h1, (Nat.div_eq_zero_iff_lt (Nat.pow_pos (by omega))).1 HX.out.symm, HK.out⟩
      clear hm HX HK
      go_wp2
      go_loopw [0, 7] (fun s0 i wr => ∃ m : Nat, m ≤ k - 1 ∧ i = .int .i64 ((k - 1 - m : Nat) : Int) ∧ wr.ownsRow base 5 1 s0 (xs ++ ups 128 128 v k m).length ((xs ++ ups 128 128 v k m).map (Value.int .u8)) ∧ Below base w wr) (fun _ i _ => (intOf i).toNat)
      case atStart => exact ⟨0, by omega, by go_num, by simpa [ups] using hown, Below.refl _ _⟩
      case round =>
        obtain ⟨m, hm, rfl, hownr, hbel⟩ := hrel
        by_cases hlt : m < k - 1
        · obtain ⟨i, hi'⟩ : ∃ i, k - 1 - m = i := ⟨_, rfl⟩
          have hi1 : 1 ≤ i := by omega
          have hi4 : i ≤ 4 := by omega
          rw [hi']
          have HI : Hid (k - 1 - m = i) := hi'
          clear hi'
          have hN : (xs ++ ups 128 128 v k m).length ≤ 1073741900 := by rw [List.length_append, ups_length]; omega
          generalize hzs : xs ++ ups 128 128 v k m = zs at *
          have HZ : Hid (xs ++ ups 128 128 v k m = zs) := hzs
          clear hzs
          go_wp2_with (at_builtin; refine wpList_append_own _ rfl _ _ 22 rfl base 5 i0 (.int .u8 0) 1 1 Try.underlying22 hi hz0 hz1 hz2 rfl (by decide) _ _ _ rfl (hownr.alloc _) ⟨wr.heap.size, 0, none⟩ 1 1 [.int .u8 (bits .or .u8 128 ((v : Int) / 2 ^ (7 * i) % 256))] rfl rfl (cell_one_new _ _ _) (ints_oneCell .u8 [bits .or .u8 128 ((v : Int) / 2 ^ (7 * i) % 256)]) ?c3 ?c4 ?c5 ?_)
          case c3 => unfold maxLen; omega
          case c4 => omega
          case c5 => have := hbel.size; simp; omega
          intro v' w1 hown' hgr _
          have hown2 : w1.ownsRow base 5 1 v' (xs ++ ups 128 128 v k (m + 1)).length ((xs ++ ups 128 128 v k (m + 1)).map (Value.int .u8)) := by
            rw [hi_byte] at hown'
            rw [ups, HI.out, ← List.append_assoc, HZ.out]
            exact own_snoc hown'
          have hbel2 : Below base w w1 := ((hbel.alloc (Nat.le_trans hb hbel.size) _).grown hgr (by have := hbel.size; simp; omega) (fun j hj => ownBlock_ge hownr hj))
          clear hown' hgr
          go_wp2
          go_roundw
          case rel => exact ⟨m + 1, by omega, by have := HI.out; go_num, hown2, hbel2⟩
          case measure => have := HI.out; simp [intOf]; omega
        · have HM : Hid (m = k - 1) := by show m = k - 1; omega
          rw [show (k - 1 - m : Nat) = 0 from by omega]
          have hN : (xs ++ ups 128 128 v k m).length ≤ 1073741900 := by rw [List.length_append, ups_length]; omega
          generalize hzs : xs ++ ups 128 128 v k m = zs at *
          have HZ : Hid (xs ++ ups 128 128 v k m = zs) := hzs
          clear hzs
          go_wp2_with (at_builtin; refine wpList_append_own _ rfl _ _ 22 rfl base 5 i0 (.int .u8 0) 1 1 Try.underlying22 hi hz0 hz1 hz2 rfl (by decide) _ _ _ rfl (hownr.alloc _) ⟨wr.heap.size, 0, none⟩ 1 1 [.int .u8 (bits .and .u8 ((v : Int) % 256) 127)] rfl rfl (cell_one_new _ _ _) (ints_oneCell .u8 [bits .and .u8 ((v : Int) % 256) 127]) ?c3 ?c4 ?c5 ?_)
          case c3 => unfold maxLen; omega
          case c4 => omega
          case c5 => have := hbel.size; simp; omega
          intro v' w1 hown' hgr _
          have hown2 : w1.ownsRow base 5 1 v' (xs ++ ups 128 128 v k (k - 1) ++ [((dg 128 v 0 : Nat) : Int)]).length ((xs ++ ups 128 128 v k (k - 1) ++ [((dg 128 v 0 : Nat) : Int)]).map (Value.int .u8)) := by
            rw [lo_byte] at hown'
            rw [← HM.out, HZ.out]
            exact own_snoc hown'
          have hbel2 : Below base w w1 := ((hbel.alloc (Nat.le_trans hb hbel.size) _).grown hgr (by have := hbel.size; simp; omega) (fun j hj => ownBlock_ge hownr hj))
          clear hown' hgr
          go_wp2
          go_ret
          exact ⟨v', k, rfl, h5, HD.out, hown2, hbel2⟩
end Go.Proofs.Qxb6604283a
