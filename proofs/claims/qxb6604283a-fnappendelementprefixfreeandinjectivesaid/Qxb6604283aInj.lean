import Derived.Test.Qxb6604283aDec
namespace Go.Proofs.Qxb6604283a

/-- the groups, from the top -/
def gs (v : Nat) : Nat → List Int
  | 0 => []
  | i + 1 => ((if i = 0 then dg 128 v 0 else 128 + dg 128 v i : Nat) : Int) :: gs v i

theorem ups_gs (v n : Nat) (hn : 1 ≤ n) : ∀ m, m ≤ n - 1 → ups 128 128 v n m ++ gs v (n - m) = gs v n
  | 0, _ => by simp [ups]
  | m + 1, h => by
    have ih := ups_gs v n hn m (by omega)
    rw [ups, List.append_assoc]
    have e : n - m = (n - (m + 1)) + 1 := by omega
    rw [e, gs, if_neg (by omega), show n - (m + 1) = n - 1 - m from by omega] at ih
    rw [show n - (m + 1) = n - 1 - m from by omega]
    exact ih

theorem grps_gs {v n : Nat} (hn : 1 ≤ n) : grps v n = gs v n := by
  have h := ups_gs v n hn (n - 1) (Nat.le_refl _)
  rw [show n - (n - 1) = 1 from by omega] at h
  rw [← h]
  rfl

/-- a reader of groups -/
def rd (acc : Nat) : List Int → Option (Nat × List Int)
  | [] => none
  | c :: r => if c < 128 then some (acc * 128 + c.toNat, r) else rd (acc * 128 + (c - 128).toNat) r

theorem rd_gs (v : Nat) (r : List Int) : ∀ i, 1 ≤ i → rd (v / 128 ^ i) (gs v i ++ r) = some (v, r)
  | 0, h => by omega
  | 1, _ => by
    have h := dg_lt 128 v 0 (by omega)
    have hs := dg_step 128 v 0
    simp only [gs, if_true, List.cons_append, List.nil_append, rd]
    rw [if_pos (by omega), Int.toNat_natCast]
    simp at hs
    simp
    omega
  | i + 2, _ => by
    have h := dg_lt 128 v (i + 1) (by omega)
    have hs := dg_step 128 v (i + 1)
    have ih := rd_gs v r (i + 1) (by omega)
    rw [gs, if_neg (by omega), List.cons_append, rd, if_neg (by omega)]
    rw [show (((128 + dg 128 v (i + 1) : Nat) : Int) - 128).toNat = dg 128 v (i + 1) from by omega, hs]
    exact ih

theorem grps_read {v n : Nat} (hD : Digs 128 v n) (r : List Int) : rd 0 (grps v n ++ r) = some (v, r) := by
  have h := rd_gs v r n hD.1
  rw [Nat.div_eq_of_lt hD.2.1] at h
  rw [grps_gs hD.1]
  exact h

theorem tag_inj {f f' n n' : Nat} {tg tg' r r' : List Int} (h : TagOf (f * 32) n tg) (h' : TagOf (f' * 32) n' tg') (e : tg ++ r = tg' ++ r') : f = f' ∧ n = n' ∧ r = r' := by
  rcases h with ⟨h1, rfl⟩ | ⟨h1, k, hk, hD, rfl⟩ <;> rcases h' with ⟨h1', rfl⟩ | ⟨h1', k', hk', hD', rfl⟩
  · simp at e
    exact ⟨by omega, by omega, e.2⟩
  · simp at e
    omega
  · simp at e
    omega
  · simp only [List.cons_append, List.cons.injEq] at e
    have e1 := e.1
    have e2 : grps n k ++ r = grps n' k' ++ r' := e.2
    have h2 := grps_read hD r
    rw [e2, grps_read hD' r'] at h2
    simp only [Option.some.injEq, Prod.mk.injEq] at h2
    exact ⟨by omega, h2.1.symm, h2.2.symm⟩

theorem len_inj {m m' : Nat} {lg lg' r r' : List Int} (h : LenOf m lg) (h' : LenOf m' lg') (e : lg ++ r = lg' ++ r') : m = m' ∧ r = r' := by
  rcases h with ⟨h1, rfl⟩ | ⟨h1, k, hk, hD, rfl⟩ <;> rcases h' with ⟨h1', rfl⟩ | ⟨h1', k', hk', hD', rfl⟩
  · simp at e
    exact ⟨by omega, e.2⟩
  · simp at e
    omega
  · simp at e
    omega
  · simp only [List.cons_append, List.cons.injEq] at e
    obtain ⟨e1, e2⟩ := e
    obtain rfl : k = k' := by omega
    obtain ⟨e3, e4⟩ := List.append_inj e2 (by rw [ups_length, ups_length])
    refine ⟨?_, e4⟩
    have hd : ∀ j, j < k → dg 256 m (k - 1 - j) = dg 256 m' (k - 1 - j) := fun j hj => by
      have a := ups_get 256 0 m k k j hj
      rw [e3, ups_get 256 0 m' k k j hj] at a
      simp at a
      omega
    have h1k := hD.1
    have hm := hD.2.1
    have hm' := hD'.2.1
    have hk3 : k = 1 ∨ k = 2 ∨ k = 3 := by omega
    unfold dg at hd
    rcases hk3 with rfl | rfl | rfl
    · have a := hd 0 (by omega)
      simp at a hm hm'
      omega
    · have a := hd 0 (by omega)
      have b := hd 1 (by omega)
      simp at a b hm hm'
      omega
    · have a := hd 0 (by omega)
      have b := hd 1 (by omega)
      have c := hd 2 (by omega)
      simp at a b c hm hm'
      omega

/-- THE PLAIN LAW: an encoding leads no other one, and says what went in. -/
theorem enc_inj {c c' n n' : Nat} {con con' : Bool} {tg tg' lg lg' ys ys' t t' : List Int} (h : TagOf (fbOf c con) n tg) (hl : LenOf ys.length lg) (h' : TagOf (fbOf c' con') n' tg') (hl' : LenOf ys'.length lg')
    (e : (tg ++ lg ++ ys) ++ t = (tg' ++ lg' ++ ys') ++ t') : c % 4 = c' % 4 ∧ con = con' ∧ n = n' ∧ ys = ys' ∧ t = t' := by
  have f1 : fbOf c con = (c % 4 * 2 + (if con then 1 else 0)) * 32 := by cases con <;> simp [fbOf] <;> omega
  have f2 : fbOf c' con' = (c' % 4 * 2 + (if con' then 1 else 0)) * 32 := by cases con' <;> simp [fbOf] <;> omega
  rw [f1] at h
  rw [f2] at h'
  simp only [List.append_assoc] at e
  obtain ⟨a, b, e2⟩ := tag_inj h h' e
  obtain ⟨e3, e4⟩ := len_inj hl hl' e2
  obtain ⟨e5, e6⟩ := List.append_inj e4 e3
  refine ⟨?_, ?_, b, e5, e6⟩
  · cases con <;> cases con' <;> simp at a <;> omega
  · cases con <;> cases con' <;> simp at a ⊢ <;> omega

theorem digs_unique {B v n n' : Nat} (hB : 1 < B) (h : Digs B v n) (h' : Digs B v n') : n = n' := by
  obtain ⟨a1, a2, a3⟩ := h
  obtain ⟨b1, b2, b3⟩ := h'
  rcases Nat.lt_trichotomy n n' with hlt | rfl | hlt
  · have h4 := b3.resolve_left (by omega)
    have h5 : B ^ n ≤ B ^ (n' - 1) := Nat.pow_le_pow_right (by omega) (by omega)
    omega
  · rfl
  · have h4 := a3.resolve_left (by omega)
    have h5 : B ^ n' ≤ B ^ (n - 1) := Nat.pow_le_pow_right (by omega) (by omega)
    omega

/-- and the same inputs give the same octets -/
theorem enc_same {c c' n : Nat} {con : Bool} {tg tg' lg lg' : List Int} {m : Nat} (hc : c % 4 = c' % 4) (h : TagOf (fbOf c con) n tg) (hl : LenOf m lg) (h' : TagOf (fbOf c' con) n tg') (hl' : LenOf m lg') : tg = tg' ∧ lg = lg' := by
  have ef : fbOf c con = fbOf c' con := by unfold fbOf; rw [hc]
  rw [← ef] at h'
  constructor
  · rcases h with ⟨h1, rfl⟩ | ⟨h1, k, hk, hD, rfl⟩ <;> rcases h' with ⟨h1', rfl⟩ | ⟨h1', k', hk', hD', rfl⟩
    · rfl
    · omega
    · omega
    · obtain rfl := digs_unique (by omega) hD hD'
      rfl
  · rcases hl with ⟨h1, rfl⟩ | ⟨h1, k, hk, hD, rfl⟩ <;> rcases hl' with ⟨h1', rfl⟩ | ⟨h1', k', hk', hD', rfl⟩
    · rfl
    · omega
    · omega
    · obtain rfl := digs_unique (by omega) hD hD'
      rfl
end Go.Proofs.Qxb6604283a
