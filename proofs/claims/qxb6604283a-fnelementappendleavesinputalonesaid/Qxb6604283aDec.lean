import Derived.Test.Qxb6604283aElem
namespace Go.Proofs.Qxb6604283a
open Go.RowKit

theorem or_shift (v d i : Nat) (hd : d < 2 ^ i) (hb : 2 ^ i * v + d < 18446744073709551616) : bits .or .u64 ((2 ^ i * v : Nat) : Int) (d : Int) = ((2 ^ i * v + d : Nat) : Int) := by
  rw [bits_or_u64_nat _ _ (by omega) (by omega), Nat.two_pow_add_eq_or_of_lt hd]
theorem or7 (v d : Nat) (hd : d < 128) (hv : v < 4294967296) : bits .or .u64 ((v : Int) * 128) (d : Int) = ((v * 128 + d : Nat) : Int) := by
  have h := or_shift v d 7 hd (by omega)
  rw [show ((2 ^ 7 * v : Nat) : Int) = (v : Int) * 128 from by omega] at h
  rw [h]
  omega
theorem or8 (v d : Nat) (hd : d < 256) (hv : v < 4294967296) : bits .or .u64 ((v : Int) * 256) (d : Int) = ((v * 256 + d : Nat) : Int) := by
  have h := or_shift v d 8 hd (by omega)
  rw [show ((2 ^ 8 * v : Nat) : Int) = (v : Int) * 256 from by omega] at h
  rw [h]
  omega

theorem ups_get (B c v n : Nat) : ∀ (m j : Nat), j < m → (ups B c v n m)[j]? = some ((c + dg B v (n - 1 - j) : Nat) : Int)
  | 0, j, h => by omega
  | m + 1, j, h => by
    rw [ups]
    rcases Nat.lt_succ_iff_lt_or_eq.1 h with h' | rfl
    · rw [List.getElem?_append_left (by rw [ups_length]; exact h')]
      exact ups_get B c v n m j h'
    · rw [List.getElem?_append_right (by rw [ups_length]; exact Nat.le_refl _), ups_length]
      simp

theorem dg_lt (B v i : Nat) (hB : 0 < B) : dg B v i < B := Nat.mod_lt _ hB
/-- one digit more -/
theorem dg_step (B v i : Nat) : v / B ^ (i + 1) * B + dg B v i = v / B ^ i := by
  unfold dg
  rw [Nat.pow_succ, ← Nat.div_div_eq_div_mul, Nat.mul_comm]
  exact Nat.div_add_mod _ _
theorem dg_top {B v n : Nat} (hB : 1 < B) (h : Digs B v n) (hn : n ≠ 1) : dg B v (n - 1) ≠ 0 := by
  obtain ⟨h1, h2, h3⟩ := h
  have h4 : B ^ (n - 1) ≤ v := h3.resolve_left hn
  have h5 : v / B ^ (n - 1) < B := by
    rw [Nat.div_lt_iff_lt_mul (Nat.pow_pos (by omega))]
    rw [show B * B ^ (n - 1) = B ^ n from by rw [← Nat.pow_succ']; congr 1; omega]
    exact h2
  unfold dg
  rw [Nat.mod_eq_of_lt h5]
  have := Nat.div_pos h4 (Nat.pow_pos (by omega))
  omega

/-- the groups of a high tag -/
def grps (num n : Nat) : List Int := ups 128 128 num n (n - 1) ++ [((dg 128 num 0 : Nat) : Int)]
theorem grps_length {num n : Nat} (h : 1 ≤ n) : (grps num n).length = n := by simp [grps, ups_length]; omega
theorem grps_mid {num n r : Nat} (h : r < n - 1) : (grps num n)[r]? = some ((128 + dg 128 num (n - 1 - r) : Nat) : Int) := by
  rw [grps, List.getElem?_append_left (by rw [ups_length]; exact h)]
  exact ups_get 128 128 num n _ r h
theorem grps_last {num n : Nat} : (grps num n)[n - 1]? = some ((dg 128 num 0 : Nat) : Int) := by
  rw [grps, List.getElem?_append_right (by rw [ups_length]; exact Nat.le_refl _), ups_length]
  simp

theorem and31_all : ∀ f : Nat, f < 8 → ∀ n : Nat, n < 32 → bits .and .u8 ((f * 32 + n : Nat) : Int) 31 = (n : Int) := by decide +kernel
theorem and32_all : ∀ f : Nat, f < 8 → ∀ n : Nat, n < 32 → bits .and .u8 ((f * 32 + n : Nat) : Int) 32 = (if f % 2 = 1 then 32 else 0) := by decide +kernel
theorem and31 (cls : Nat) (con : Bool) {n : Nat} (hn : n < 32) : bits .and .u8 ((fbOf cls con + n : Nat) : Int) 31 = (n : Int) := by
  obtain ⟨f, hf, e⟩ := fb_form cls con
  rw [e]; exact and31_all f hf n hn
theorem and32 (cls : Nat) (con : Bool) {n : Nat} (hn : n < 32) : bits .and .u8 ((fbOf cls con + n : Nat) : Int) 32 = (if con then 32 else 0) := by
  have h := and32_all (cls % 4 * 2 + (if con then 1 else 0)) (by cases con <;> simp <;> omega) n hn
  rw [show (cls % 4 * 2 + (if con then 1 else 0)) * 32 + n = fbOf cls con + n from by cases con <;> simp [fbOf] <;> omega] at h
  rw [h]
  cases con
  · simp
  · simp
theorem id64 (cls : Nat) (con : Bool) {n : Nat} (hn : n < 32) : ((fbOf cls con + n : Nat) : Int) / 64 = ((cls % 4 : Nat) : Int) := by
  cases con <;> simp [fbOf] <;> omega
theorem and128_all : ∀ n : Nat, n < 256 → bits .and .u8 (n : Int) 128 = (if n < 128 then 0 else 128) := by decide +kernel

end Go.Proofs.Qxb6604283a
