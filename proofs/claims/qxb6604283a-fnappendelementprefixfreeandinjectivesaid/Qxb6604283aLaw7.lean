import Derived.Test.Qxb6604283aElem
import Derived.Test.Qxb6604283aInj
import Derived.Test.Qxb6604283aLaw6
namespace Go.Proofs.Qxb6604283a
open Go.RowKit

/-- are the inputs the same? -/
def sameB (c c' n n' : Nat) (con con' : Bool) (ys ys' : List Int) : Bool := decide (c % 4 = c' % 4) && decide (n = n') && (con == con') && (ys == ys')

theorem agree_prefix {E E' : List Int} (hl : E.length ≤ E'.length) (h : ∀ j, j < E.length → E[j]? = E'[j]?) : E ++ E'.drop E.length = E' := by
  have e : E = E'.take E.length := by
    apply List.ext_getElem?
    intro j
    by_cases hj : j < E.length
    · rw [h j hj, List.getElem?_take_of_lt hj]
    · rw [List.getElem?_eq_none (by omega), List.getElem?_eq_none (by simp; omega)]
  conv => lhs; arg 1; rw [e]
  exact List.take_append_drop _ _

section
variable {c c' n n' : Nat} {con con' : Bool} {tg tg' lg lg' ys ys' : List Int}

theorem same_law (h : TagOf (fbOf c con) n tg) (hl : LenOf ys.length lg) (h' : TagOf (fbOf c' con') n' tg') (hl' : LenOf ys'.length lg') (hs : sameB c c' n n' con con' ys ys' = true) : tg ++ lg ++ ys = tg' ++ lg' ++ ys' := by
  simp [sameB] at hs
  obtain ⟨⟨⟨h1, rfl⟩, rfl⟩, rfl⟩ := hs
  obtain ⟨rfl, rfl⟩ := enc_same h1 h hl h' hl'
  rfl

theorem agree_law (h : TagOf (fbOf c con) n tg) (hl : LenOf ys.length lg) (h' : TagOf (fbOf c' con') n' tg') (hl' : LenOf ys'.length lg')
    (ha : ∀ j, j < min (tg ++ lg ++ ys).length (tg' ++ lg' ++ ys').length → (tg ++ lg ++ ys)[j]? = (tg' ++ lg' ++ ys')[j]?) : sameB c c' n n' con con' ys ys' = true ∧ (tg ++ lg ++ ys).length = (tg' ++ lg' ++ ys').length := by
  have key : c % 4 = c' % 4 ∧ con = con' ∧ n = n' ∧ ys = ys' ∧ (tg ++ lg ++ ys).length = (tg' ++ lg' ++ ys').length := by
    rcases Nat.le_total (tg ++ lg ++ ys).length (tg' ++ lg' ++ ys').length with hle | hle
    · have e := agree_prefix hle (fun j hj => ha j (by omega))
      obtain ⟨a1, a2, a3, a4, a5⟩ := enc_inj (t' := []) h hl h' hl' (by rw [e, List.append_nil])
      refine ⟨a1, a2, a3, a4, ?_⟩
      have := congrArg List.length a5
      simp only [List.length_drop, List.length_nil] at this
      omega
    · have e := agree_prefix hle (fun j hj => (ha j (by omega)).symm)
      obtain ⟨a1, a2, a3, a4, a5⟩ := enc_inj (t := []) h hl h' hl' (by rw [e, List.append_nil])
      refine ⟨a1, a2, a3, a4, ?_⟩
      have := congrArg List.length a5
      simp only [List.length_drop, List.length_nil] at this
      omega
  obtain ⟨a1, rfl, rfl, rfl, a5⟩ := key
  exact ⟨by simp [sameB, a1], a5⟩
end

set_option maxHeartbeats 1000000 in
theorem bytes7_any (p q : Option Addr) (n c m d : Nat) (cls num cls' num' : Int) (con con' : Bool) (w : World) :
    Calls Try.prog 10 #[.int .u8 cls, .int .u32 num, .bool con, .slice p n c, .int .u8 cls', .int .u32 num', .bool con', .slice q m d] w fun e w' => Says e (n ≤ 1048576 ∧ m ≤ 1048576) ∧ w' = w := by
  go_enter Try.func10, Try.ntmps10
  go_wp2
  all_goals go_ret
  all_goals first
    | exact ⟨Says.no, rfl⟩
    | exact ⟨Says.yes (by omega), rfl⟩

set_option maxRecDepth 100000 in
set_option maxHeartbeats 3000000 in
theorem law7 (p q : Option Addr) (xs ys : List Int) (c d cls num cls' num' : Nat) (con con' : Bool) (w : World) (hc : cls < 256) (hnum : num < 4294967296) (hc' : cls' < 256) (hnum' : num' < 4294967296) (hx : BytesAt w p xs) (hy : BytesAt w q ys) :
    Calls Try.prog 4 #[.int .u8 (cls : Int), .int .u32 (num : Int), .bool con, .slice p xs.length c, .int .u8 (cls' : Int), .int .u32 (num' : Int), .bool con', .slice q ys.length d] w fun e w' => e = .returned (.bool true) ∧ Below w.heap.size w w' := by
  go_enter Try.func4, Try.ntmps4
  go_wp2_with fail
  refine (bytes7_any p q xs.length c ys.length d cls num cls' num' con con' w).mono ?_
  rintro e w' ⟨⟨t, rfl, ht⟩, hw⟩
  obtain rfl : w = w' := hw.symm
  cases t
  · go_wp2
    go_ret
    exact ⟨rfl, Below.refl _ _⟩
  obtain ⟨b1, b2⟩ := ht rfl
  clear ht
  by_cases hbx : xs.length ≤ 524288
  case neg =>
    have h' : (524288 : Int) < (xs.length : Int) := by omega
    go_wp2_with fail
    go_ret
    exact ⟨rfl, Below.refl _ _⟩
  by_cases hby : ys.length ≤ 524288
  case neg =>
    have h' : (524288 : Int) < (ys.length : Int) := by omega
    go_wp2_with fail
    go_ret
    exact ⟨rfl, Below.refl _ _⟩
  go_wp2_with fail
  refine (clone_any p xs c w hx (by omega)).mono ?_
  rintro e w1 ⟨p1, rfl, hx1, hb1⟩
  go_wp2_with fail
  refine (clone_any q ys d w1 (hy.kept hb1) (by omega)).mono ?_
  rintro e w2 ⟨q1, rfl, hy2, hb2⟩
  have hx2 := hx1.kept hb2
  have hB2 : Below w.heap.size w w2 := hb1.trans (hb2.mono hb1.size)
  clear hx1 hb1 hb2 hx hy
  have hel1 := elem_any none p1 [] xs cls num con xs.length w2 hc hnum (.inl rfl) hx2 (by simp) (by omega) (fun _ => rfl) (fun h => by subst h; have := hx2.isNil; subst this; exact ⟨rfl, rfl⟩)
  go_wp2_with fail
  refine hel1.mono ?_
  rintro e w3 ⟨v1, tg, lg, rfl, hT, hL, hown, hb3⟩
  rw [List.nil_append] at hown
  have hne1 : tg ++ lg ++ xs ≠ [] := by have := hT.ne; simp [this]
  obtain ⟨g1, cap1, hv1, hg1, hcap1, hcell1⟩ := own_form hown hne1
  rw [hv1]
  have hx3 := hx2.kept hb3
  have hy3 := hy2.kept hb3
  have hB3 := hB2.trans (hb3.mono hB2.size)
  have hM1 : (tg ++ lg ++ xs).length ≤ 524300 := by have := hT.short; have := hL.short; simp; omega
  generalize hE1 : tg ++ lg ++ xs = E1 at hcell1 hcap1 hM1 ⊢
  have HE1 : Hid (tg ++ lg ++ xs = E1) := hE1
  clear hel1 hown hv1 hx2 hy2 hB2 hb3 hE1 hne1 hg1
  have hel2 := elem_any none q1 [] ys cls' num' con' ys.length w3 hc' hnum' (.inl rfl) hy3 (by simp) (by omega) (fun _ => rfl) (fun h => by subst h; have := hy3.isNil; subst this; exact ⟨rfl, rfl⟩)
  go_wp2_with fail
  refine hel2.mono ?_
  rintro e w4 ⟨v2, tg', lg', rfl, hT', hL', hown, hb4⟩
  rw [List.nil_append] at hown
  have hne2 : tg' ++ lg' ++ ys ≠ [] := by have := hT'.ne; simp [this]
  obtain ⟨g2, cap2, hv2, hg2, hcap2, hcell2⟩ := own_form hown hne2
  rw [hv2]
  have hx4 := hx3.kept hb4
  have hy4 := hy3.kept hb4
  have hB4 := hB3.trans (hb4.mono hB3.size)
  have hcell14 : ∀ (i : Nat) x, E1[i]? = some x → w4.cell? ⟨g1, i, none⟩ = some (.int .u8 x) := fun i x hi => by
    have h := hcell1 i x hi
    rw [hb4.cell (p := ⟨g1, i, none⟩) (lt_of_cell h)]
    exact h
  have hM2 : (tg' ++ lg' ++ ys).length ≤ 524300 := by have := hT'.short; have := hL'.short; simp; omega
  have HS : Hid (sameB cls cls' num num' con con' xs ys = true → tg ++ lg ++ xs = tg' ++ lg' ++ ys) := same_law hT hL hT' hL'
  have HA : Hid ((∀ j, j < min (tg ++ lg ++ xs).length (tg' ++ lg' ++ ys).length → (tg ++ lg ++ xs)[j]? = (tg' ++ lg' ++ ys)[j]?) → sameB cls cls' num num' con con' xs ys = true ∧ (tg ++ lg ++ xs).length = (tg' ++ lg' ++ ys).length) := agree_law hT hL hT' hL'
  have e3 := and3_all cls hc
  have e3' := and3_all cls' hc'
  rw [HE1.out] at HS HA
  generalize hE2 : tg' ++ lg' ++ ys = E2 at *
  clear hel2 hown hv2 hx3 hy3 hB3 hb4 hcell1 hT hL hT' hL' HE1 hne2 hE2 hg2
  have heq := fun k => equal_any p1 q1 xs ys xs.length ys.length (w4.drewN k) hx4 hy4 (by omega)
  go_upto_region 11 with (fail)
  go_cut [19] (fun s wx => ∃ k, s = .bool (sameB cls cls' num num' con con' xs ys) ∧ wx = w4.drewN k)
  case first =>
    by_cases h1 : cls % 4 = cls' % 4
    · have h1' : (((cls : Int) % 4) == ((cls' : Int) % 4)) = true := by rw [beq_iff_eq]; omega
      by_cases h2 : num = num'
      · have h2' : ((num : Int) == (num' : Int)) = true := by rw [beq_iff_eq]; omega
        cases h3 : (con == con')
        · have HSB : Hid (sameB cls cls' num num' con con' xs ys = false) := by show _ = _; simp [sameB, h3]
          clear h1 h2
          go_wp2_with fail
          go_meet
          case rel => exact ⟨0, by rw [HSB.out], rfl⟩
        · have HSB : Hid (sameB cls cls' num num' con con' xs ys = (xs == ys)) := by show _ = _; simp [sameB, h3, h1, h2]
          have heq0 := heq 0
          clear h1 h2 heq
          go_wp2_with fail
          refine heq0.mono ?_
          rintro e w5 ⟨rfl, n5, rfl⟩
          go_wp2_with fail
          go_meet
          case rel => exact ⟨0 + n5, by rw [HSB.out], by simp⟩
      · have h2' : ((num : Int) == (num' : Int)) = false := by rw [beq_eq_false_iff_ne]; omega
        have HSB : Hid (sameB cls cls' num num' con con' xs ys = false) := by show _ = _; simp [sameB, h2]
        clear h1 h2
        go_wp2_with fail
        go_meet
        case rel => exact ⟨0, by rw [HSB.out], rfl⟩
    · have h1' : (((cls : Int) % 4) == ((cls' : Int) % 4)) = false := by rw [beq_eq_false_iff_ne]; omega
      have HSB : Hid (sameB cls cls' num num' con con' xs ys = false) := by show _ = _; simp [sameB, h1]
      clear h1
      go_wp2_with fail
      go_meet
      case rel => exact ⟨0, by rw [HSB.out], rfl⟩
  case rest =>
    obtain ⟨k0, rfl, rfl⟩ := hcut
    generalize sameB cls cls' num num' con con' xs ys = sm at *
    clear heq hx4 hy4 e3 e3'
    go_upto_if 80 with (fail)
    go_cut [20] (fun s wx => s = .int .i64 ((min E1.length E2.length : Nat) : Int) ∧ w4.drewN k0 = wx)
    case first =>
      by_cases hlt : E2.length < E1.length
      · go_wp2_with fail
        go_meet
        case rel => exact ⟨by rw [Nat.min_eq_right (by omega)], rfl⟩
      · go_wp2_with fail
        go_meet
        case rel => exact ⟨by rw [Nat.min_eq_left (by omega)], rfl⟩
    case rest =>
      obtain ⟨rfl, rfl⟩ := hcut
      have hmn1 : min E1.length E2.length ≤ E1.length := Nat.min_le_left _ _
      have hmn2 : min E1.length E2.length ≤ E2.length := Nat.min_le_right _ _
      generalize hMN : min E1.length E2.length = mn at *
      clear hMN
      go_wp2_with fail
      go_loopw [21, 22] (fun pr i wr => ∃ j k : Nat, j ≤ mn ∧ i = .int .i64 j ∧ pr = .bool true ∧ wr = w4.drewN k ∧ Hid (∀ t, t < j → E1[t]? = E2[t]?)) (fun _ i _ => mn - (intOf i).toNat)
      case atStart => exact ⟨0, k0, by omega, rfl, rfl, rfl, fun t ht => by omega⟩
      case round =>
        obtain ⟨j, k, hj, rfl, rfl, rfl, HG⟩ := hrel
        by_cases hlt : j < mn
        · obtain ⟨x1, hx1⟩ : ∃ x, E1[j]? = some x := ⟨_, List.getElem?_eq_getElem (by omega)⟩
          obtain ⟨x2, hx2⟩ : ∃ x, E2[j]? = some x := ⟨_, List.getElem?_eq_getElem (by omega)⟩
          have h1 := hcell14 j x1 hx1
          have h2 := hcell2 j x2 hx2
          have hj1 : (j : Int) < (E1.length : Int) := by omega
          have hj2 : (j : Int) < (E2.length : Int) := by omega
          have hj3 : (j : Int) < (mn : Int) := by omega
          cases hee : (x1 != x2)
          · have HG' : Hid (∀ t, t < j + 1 → E1[t]? = E2[t]?) := by
              intro t ht
              rcases Nat.lt_succ_iff_lt_or_eq.1 ht with h | rfl
              · exact HG.out t h
              · rw [hx1, hx2]
                simp at hee
                rw [hee]
            clear hx1 hx2 hcell14 hcell2 HA HS
            go_wp2_with fail
            go_quiet (fail)
            go_wp2_with fail
            go_roundw
            case rel => exact ⟨j + 1, k + nq, by omega, by go_num, rfl, rfl, HG'⟩
            case measure => simp [intOf]; omega
          · have hsm : sm = false := by
              cases hsb : sm
              · rfl
              · have h := HS.out hsb
                rw [h, hx2] at hx1
                simp at hx1
                simp [hx1] at hee
            subst hsm
            clear hx1 hx2 hcell14 hcell2 HA HS
            go_wp2_with fail
            go_quiet (fail)
            go_wp2_with fail
            go_ret
            exact ⟨rfl, below_drewN hB4 _⟩
        · obtain rfl : j = mn := by omega
          obtain ⟨hsm, hll⟩ := HA.out (fun t ht => HG.out t ht)
          subst hsm
          have hle : ((E1.length : Int) == (E2.length : Int)) = true := by rw [beq_iff_eq]; omega
          clear hcell14 hcell2 HA HS hll
          go_wp2_with fail
          go_ret
          exact ⟨rfl, below_drewN hB4 _⟩
end Go.Proofs.Qxb6604283a
