import Derived.Test.Qxb6604185aScan
import Derived.Deep.DeepCutAuto
import Derived.Deep.CutBlock
namespace Go.Proofs.Qxb6604185a
open Go.RowKit

/-- is byte k there, and is it v? -/
def isAt (xs : List Int) (k : Nat) (v : Int) : Bool := xs[k]? == some v
theorem isAt_yes {xs : List Int} {k : Nat} {u : Int} (h : xs[k]? = some u) (v : Int) : (u == v) = isAt xs k v := by simp [isAt, h]
theorem isAt_out {xs : List Int} {k : Nat} (h : ¬ k < xs.length) (v : Int) : false = isAt xs k v := by
  rw [isAt, List.getElem?_eq_none (by omega)]; rfl
theorem isAt_true {xs : List Int} {k : Nat} {v : Int} (h : isAt xs k v = true) : xs[k]? = some v := by simpa [isAt] using h
theorem isAt_false {xs : List Int} {k : Nat} {v : Int} (h : isAt xs k v = false) : xs[k]? ≠ some v := by simpa [isAt] using h

/-- what the walk reads of the scanner at its place -/
theorem ScanIs.read {w0 w : World} {p : Option Addr} {xs : List Int} {c k : Nat} {D Sp R : Value} (h : ScanIs w0 w p xs.length c k D Sp R) (hx : BytesAt w0 p xs) (hlt : k < xs.length) :
    ∃ b o v, p = some ⟨b, o, none⟩ ∧ w.cell? ⟨b, o + k, none⟩ = some (.int .u8 v) ∧ xs[k]? = some v := by
  rcases hx with rfl | ⟨b, o, rfl, hc⟩
  · simp at hlt
  · have h1 := hc k hlt
    exact ⟨b, o, xs.getD k 0, rfl, (h.below.cell (p := ⟨b, o + k, none⟩) (lt_of_cell h1)).trans h1, by simp [List.getD, hlt]⟩

set_option maxRecDepth 100000 in
set_option maxHeartbeats 4000000 in
/-- (*scanner).number -/
theorem number_any (w0 w : World) (p : Option Addr) (xs : List Int) (c k : Nat) (D Sp R : Value) (h : ScanIs w0 w p xs.length c k D Sp R) (hx : BytesAt w0 p xs) (bl : xs.length ≤ 1048576) :
    Calls Try.prog 17 #[.pointer (some ⟨w0.heap.size, 0, none⟩)] w fun e w' => e = .returned (.bool (numF xs k).1) ∧ ScanIs w0 w' p xs.length c (numF xs k).2 D Sp R := by
  have HX : Hid (BytesAt w0 p xs) := hx
  clear hx
  go_enter Try.func17, Try.ntmps17
  go_wp2_with fail
  go_cut [25] (fun s wx => ∃ n, s = .bool (isAt xs k 45) ∧ wx = w.drewN n)
  case first =>
    as_aux_lemma =>
      have c0 := h.c0
      have c1 := h.c1
      by_cases hlt : k < xs.length
      · obtain ⟨b, o, v, rfl, hv, hg⟩ := h.read HX.out hlt
        have HG : Hid (xs[k]? = some v) := hg
        have hki : (k : Int) < (xs.length : Int) := by omega
        clear hg
        go_quiet (fail)
        go_wp2_with fail
        go_meet
        case rel => exact ⟨nq, by rw [isAt_yes HG.out], rfl⟩
      · have hlt' : decide ((k : Int) < (xs.length : Int)) = false := by simp; omega
        go_quiet (fail)
        go_wp2_with fail
        go_meet
        case rel => exact ⟨nq, by rw [← isAt_out hlt], rfl⟩
  case rest =>
    obtain ⟨n, rfl, rfl⟩ := hcut
    have h' := h.drewN n
    clear h
    go_upto_if 25 with (fail)
    go_cut [] (fun wx => ∃ k1, ScanIs w0 wx p xs.length c k1 D Sp R ∧ Hid (numF xs k = intF xs k1))
    case first =>
      as_aux_lemma =>
        have c1 := h'.c1
        have fz := h'.fz 1
        cases hm : isAt xs k 45
        · have HN : Hid (numF xs k = intF xs k) := numF_plain (isAt_false hm)
          go_wp2_with fail
          go_meet
          case rel => exact ⟨k, h', HN⟩
        · have HN : Hid (numF xs k = intF xs (k + 1)) := numF_minus (isAt_true hm)
          have hn := h'.next
          have hlt : k < xs.length := (List.getElem?_eq_some_iff.1 (isAt_true hm)).1
          go_wp2_with fail
          go_meet
          case rel => exact ⟨k + 1, hn, HN⟩
    case rest =>
      obtain ⟨k1, h, HN⟩ := hcut
      clear h'
      go_upto_block 0 with (fail)
      go_cut [] (fun wx => ∃ k2, ScanIs w0 wx p xs.length c k2 D Sp R ∧ Hid (numF xs k = fracF xs k2))
      case first =>
        as_aux_lemma =>
          have c0 := h.c0
          have c1 := h.c1
          have fz := fun n => (h.drewN n).fz 1
          have hdg := fun n => digits_any w0 (wc.drewN n) p xs c k1 D Sp R (h.drewN n) HX.out bl
          have hn := fun n => (h.drewN n).next
          by_cases hz : isAt xs k1 48 = true
          · have hlt : k1 < xs.length := (List.getElem?_eq_some_iff.1 (isAt_true hz)).1
            obtain ⟨b, o, v, rfl, hv, hg⟩ := h.read HX.out hlt
            have hv48 : (v == 48) = true := (isAt_yes hg 48).trans hz
            have HF : Hid (numF xs k = fracF xs (k1 + 1)) := HN.out.trans (intF_zero (isAt_true hz))
            have hki : (k1 : Int) < (xs.length : Int) := by omega
            clear hg hdg hz
            go_wp2_with fail
            go_quiet (fail)
            go_wp2_with fail
            go_meet
            case rel => exact ⟨k1 + 1, hn _, HF⟩
          · have hz' : isAt xs k1 48 = false := by simpa using hz
            clear hn
            have HB : Hid (digEnd xs k1 = k1 → numF xs k = (false, k1)) := fun e => HN.out.trans (intF_bad (isAt_false hz') e)
            have HO : Hid (digEnd xs k1 ≠ k1 → numF xs k = fracF xs (digEnd xs k1)) := fun e => HN.out.trans (intF_ok (isAt_false hz') e)
            have hge := digEnd_ge xs k1
            generalize digEnd xs k1 = k2 at *
            have hcase : (∃ b o v, p = some ⟨b, o, none⟩ ∧ wc.cell? ⟨b, o + k1, none⟩ = some (.int .u8 v) ∧ (v == 48) = false ∧ (k1 : Int) < (xs.length : Int)) ∨ (¬ k1 < xs.length ∧ decide ((k1 : Int) < (xs.length : Int)) = false) := by
              by_cases hlt : k1 < xs.length
              · obtain ⟨b, o, v, e, hv, hg⟩ := h.read HX.out hlt
                exact .inl ⟨b, o, v, e, hv, (isAt_yes hg 48).trans hz', by omega⟩
              · exact .inr ⟨hlt, by simp; omega⟩
            clear hz hz'
            rcases hcase with ⟨b, o, v, rfl, hv, hv48, hki⟩ | ⟨hlt, hlt'⟩
            all_goals
              go_wp2_with fail
              go_quiet (fail)
              go_wp2_with fail
              refine (hdg _).mono ?_
              rintro e w2 ⟨rfl, h2⟩
              by_cases he : k2 = k1
              · subst he
                rw [show decide (k2 < k2) = false from by simp]
                have HB' := HB.out rfl
                have HB2 : Hid (numF xs k = (false, k2)) := HB'
                clear HB' HB HO
                go_wp2_with fail
                go_ret
                rw [HB2.out]
                exact ⟨rfl, h2⟩
              · rw [show decide (k1 < k2) = true from by simp; omega]
                have HO2 : Hid (numF xs k = fracF xs k2) := HO.out he
                clear HO HB
                go_wp2_with fail
                go_meet
                case rel => exact ⟨k2, h2, HO2⟩
      case rest =>
        obtain ⟨k2, h2, HN2⟩ := hcut
        clear h HN
        go_wp2_with fail
        go_cut [90] (fun s wx => ∃ n, s = .bool (isAt xs k2 46) ∧ wx = wc.drewN n)
        case first =>
          as_aux_lemma =>
            have c0 := h2.c0
            have c1 := h2.c1
            by_cases hlt : k2 < xs.length
            · obtain ⟨b, o, v, rfl, hv, hg⟩ := h2.read HX.out hlt
              have HG : Hid (xs[k2]? = some v) := hg
              have hki : (k2 : Int) < (xs.length : Int) := by omega
              clear hg
              go_quiet (fail)
              go_wp2_with fail
              go_meet
              case rel => exact ⟨nq, by rw [isAt_yes HG.out], rfl⟩
            · have hlt' : decide ((k2 : Int) < (xs.length : Int)) = false := by simp; omega
              go_quiet (fail)
              go_wp2_with fail
              go_meet
              case rel => exact ⟨nq, by rw [← isAt_out hlt], rfl⟩
        case rest =>
          obtain ⟨n3, rfl, rfl⟩ := hcut
          have h3 := h2.drewN n3
          clear h2
          go_upto_if 90 with (fail)
          go_cut [] (fun wx => ∃ k3, ScanIs w0 wx p xs.length c k3 D Sp R ∧ Hid (numF xs k = expoF xs k3))
          case first =>
            as_aux_lemma =>
              have c1 := h3.c1
              have fz := h3.fz 1
              cases hm : isAt xs k2 46
              · have HF : Hid (numF xs k = expoF xs k2) := HN2.out.trans (fracF_no (isAt_false hm))
                go_wp2_with fail
                go_meet
                case rel => exact ⟨k2, h3, HF⟩
              · have hn := h3.next
                have hlt : k2 < xs.length := (List.getElem?_eq_some_iff.1 (isAt_true hm)).1
                have HB : Hid (digEnd xs (k2 + 1) = k2 + 1 → numF xs k = (false, k2 + 1)) := fun e => HN2.out.trans (fracF_bad (isAt_true hm) e)
                have HO : Hid (digEnd xs (k2 + 1) ≠ k2 + 1 → numF xs k = expoF xs (digEnd xs (k2 + 1))) := fun e => HN2.out.trans (fracF_ok (isAt_true hm) e)
                have hdg := digits_any w0 _ p xs c (k2 + 1) D Sp R hn HX.out bl
                have hge := digEnd_ge xs (k2 + 1)
                generalize digEnd xs (k2 + 1) = k3 at *
                go_wp2_with fail
                refine hdg.mono ?_
                rintro e w2 ⟨rfl, h4⟩
                by_cases he : k3 = k2 + 1
                · rw [show decide (k2 + 1 < k3) = false from by simp; omega]
                  have HB2 : Hid (numF xs k = (false, k2 + 1)) := HB.out he
                  have h4' : ScanIs w0 w2 p xs.length c (k2 + 1) D Sp R := he ▸ h4
                  clear HB HO he h4 hdg hn
                  go_wp2_with fail
                  go_ret
                  rw [HB2.out]
                  exact ⟨rfl, h4'⟩
                · rw [show decide (k2 + 1 < k3) = true from by simp; omega]
                  have HO2 : Hid (numF xs k = expoF xs k3) := HO.out he
                  clear HO HB hdg hn
                  go_wp2_with fail
                  go_meet
                  case rel => exact ⟨k3, h4, HO2⟩
          case rest =>
            obtain ⟨k3, h4, HN3⟩ := hcut
            clear h3 HN2
            go_wp2_with fail
            go_cut [136] (fun s wx => ∃ n, s = .bool (isAt xs k3 101 || isAt xs k3 69) ∧ wx = wc.drewN n)
            case first =>
              as_aux_lemma =>
                have c0 := h4.c0
                have c1 := h4.c1
                by_cases hlt : k3 < xs.length
                · obtain ⟨b, o, v, rfl, hv, hg⟩ := h4.read HX.out hlt
                  have HG : Hid (xs[k3]? = some v) := hg
                  have hki : (k3 : Int) < (xs.length : Int) := by omega
                  clear hg
                  cases hE : (v == 101)
                  · go_quiet (fail)
                    go_wp2_with fail
                    go_meet
                    case rel => exact ⟨nq, by rw [← isAt_yes HG.out 101, ← isAt_yes HG.out 69, hE]; rfl, rfl⟩
                  · go_quiet (fail)
                    go_wp2_with fail
                    go_meet
                    case rel => exact ⟨nq, by rw [← isAt_yes HG.out 101, hE]; rfl, rfl⟩
                · have hlt' : decide ((k3 : Int) < (xs.length : Int)) = false := by simp; omega
                  go_quiet (fail)
                  go_wp2_with fail
                  go_meet
                  case rel => exact ⟨nq, by rw [← isAt_out hlt, ← isAt_out hlt]; rfl, rfl⟩
            case rest =>
              obtain ⟨n4, rfl, rfl⟩ := hcut
              have h5 := h4.drewN n4
              clear h4
              have c1 := h5.c1
              have fz := h5.fz 1
              cases hm : (isAt xs k3 101 || isAt xs k3 69)
              · have HF : Hid (numF xs k = (true, k3)) := HN3.out.trans (expoF_no (fun c hc => by
                  rw [← isAt_yes hc, ← isAt_yes hc] at hm; exact hm))
                go_wp2_with fail
                go_ret
                rw [HF.out]
                exact ⟨rfl, h5⟩
              · have hn := h5.next
                have HE : Hid (∃ u, xs[k3]? = some u ∧ isE u = true) := by
                  rcases Bool.or_eq_true _ _ ▸ hm with h | h
                  · exact ⟨_, isAt_true h, rfl⟩
                  · exact ⟨_, isAt_true h, rfl⟩
                have hlt : k3 < xs.length := by obtain ⟨u, hu, _⟩ := HE.out; exact (List.getElem?_eq_some_iff.1 hu).1
                clear hm
                go_wp2_with fail
                clear c1 fz
                generalize (wc.drewN n4).setCell ⟨w0.heap.size, 1, none⟩ (.int .i64 ((k3 : Int) + 1)) = wd at *
                go_cut [179] (fun s wx => ∃ n, s = .bool (isAt xs (k3 + 1) 43 || isAt xs (k3 + 1) 45) ∧ wx = wd.drewN n)
                case first =>
                  as_aux_lemma =>
                    have c0 := hn.c0
                    have c1 := hn.c1
                    simp only [Int.natCast_add, Int.cast_ofNat_Int] at c1
                    by_cases hlt : k3 + 1 < xs.length
                    · obtain ⟨b, o, v, rfl, hv, hg⟩ := hn.read HX.out hlt
                      have HG : Hid (xs[k3 + 1]? = some v) := hg
                      have hki : (k3 : Int) + 1 < (xs.length : Int) := by omega
                      clear hg
                      cases hE : (v == 43)
                      · go_quiet (fail)
                        go_wp2_with fail
                        go_meet
                        case rel => exact ⟨nq, by rw [← isAt_yes HG.out 43, ← isAt_yes HG.out 45, hE]; rfl, rfl⟩
                      · go_quiet (fail)
                        go_wp2_with fail
                        go_meet
                        case rel => exact ⟨nq, by rw [← isAt_yes HG.out 43, hE]; rfl, rfl⟩
                    · have hlt' : decide ((k3 : Int) + 1 < (xs.length : Int)) = false := by simp; omega
                      go_quiet (fail)
                      go_wp2_with fail
                      go_meet
                      case rel => exact ⟨nq, by rw [← isAt_out hlt, ← isAt_out hlt]; rfl, rfl⟩
                case rest =>
                  obtain ⟨n5, rfl, rfl⟩ := hcut
                  have h6 := hn.drewN n5
                  clear hn
                  go_upto_if 179 with (fail)
                  go_cut [] (fun wx => ∃ k5, ScanIs w0 wx p xs.length c k5 D Sp R ∧ Hid (numF xs k = (decide (k5 < digEnd xs k5), digEnd xs k5)))
                  case first =>
                    as_aux_lemma =>
                      have c1 := h6.c1
                      simp only [Int.natCast_add, Int.cast_ofNat_Int] at c1
                      have fz := h6.fz 1
                      cases hm : (isAt xs (k3 + 1) 43 || isAt xs (k3 + 1) 45)
                      · have HF : Hid (numF xs k = (decide (k3 + 1 < digEnd xs (k3 + 1)), digEnd xs (k3 + 1))) := by
                          obtain ⟨u, hu, hE⟩ := HE.out
                          refine HN3.out.trans (expoF_bare hu hE (fun s hs => ?_))
                          rw [← isAt_yes hs, ← isAt_yes hs] at hm
                          simpa using hm
                        go_wp2_with fail
                        go_meet
                        case rel => exact ⟨k3 + 1, h6, HF⟩
                      · have hn := h6.next
                        have HF : Hid (numF xs k = (decide (k3 + 1 + 1 < digEnd xs (k3 + 1 + 1)), digEnd xs (k3 + 1 + 1))) := by
                          obtain ⟨u, hu, hE⟩ := HE.out
                          rcases Bool.or_eq_true _ _ ▸ hm with h | h
                          · exact HN3.out.trans (expoF_sign hu hE (isAt_true h) (.inl rfl))
                          · exact HN3.out.trans (expoF_sign hu hE (isAt_true h) (.inr rfl))
                        have hki : (k3 : Int) + 1 < 1048580 := by omega
                        simp only [Int.natCast_add, Int.cast_ofNat_Int] at hn
                        go_wp2_with fail
                        go_meet
                        case rel => exact ⟨k3 + 1 + 1, hn, HF⟩
                  case rest =>
                    obtain ⟨k5, h7, HN5⟩ := hcut
                    clear h6
                    have hdg := digits_any w0 wc p xs c k5 D Sp R h7 HX.out bl
                    go_wp2_with fail
                    refine hdg.mono ?_
                    rintro e w2 ⟨rfl, h8⟩
                    clear hdg h7
                    cases hd : decide (k5 < digEnd xs k5)
                    · go_wp2_with fail
                      go_ret
                      rw [HN5.out, hd]
                      exact ⟨rfl, h8⟩
                    · go_wp2_with fail
                      go_ret
                      rw [HN5.out, hd]
                      exact ⟨rfl, h8⟩
end Go.Proofs.Qxb6604185a
