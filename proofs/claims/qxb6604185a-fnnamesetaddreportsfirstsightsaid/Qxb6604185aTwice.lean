import Derived.Test.Qxb6604185aAdd
namespace Go.Proofs.Qxb6604185a
open Go.RowKit Go.Maps

abbrev bs (es : List Nm) : List (List Int) := es.map (·.2)

theorem take_bs {es : List Nm} {k : Nat} {e : Nm} (h : es[k]? = some e) : bs (es.take k) ++ [e.2] = bs (es.take (k + 1)) := by
  rw [List.take_add_one, h]; simp [bs]

set_option maxHeartbeats 1000000 in
theorem twice_walk (p pr : Option Addr) (es : List Nm) (c : Nat) (xs : List Int) (d : Nat) (w : World) (hp : NamesAt w p es) (hq : BytesAt w pr xs) (hB : ∀ e ∈ es, Bytey e.2) (hbx : Bytey xs) :
    Calls Try.prog 5 #[.slice p es.length c, .slice pr xs.length d] w fun e w' => e = .returned (.bool true) ∧ Below w.heap.size w w' := by
  go_enter Try.func5, Try.ntmps5
  go_wp2_with fail
  refine (bytesB_any p es c pr xs.length d w hp).mono ?_
  rintro e w' ⟨⟨t, rfl, ht⟩, hw⟩
  obtain rfl : w = w' := hw.symm
  cases t
  · go_wp2
    go_ret
    exact ⟨rfl, Below.refl _ _⟩
  obtain ⟨hS, hm⟩ := ht rfl
  go_wp2_with fail
  refine (fit_any p es c xs.length w hp hS hm).mono ?_
  rintro e w' ⟨⟨t, rfl, _⟩, hw⟩
  obtain rfl : w = w' := hw.symm
  cases t
  · go_wp2
    go_ret
    exact ⟨rfl, Below.refl _ _⟩
  go_wp2_with fail
  refine (cloneNames_any p es c w hp hS).mono ?_
  rintro e w1 ⟨p1, rfl, hp1, hb1⟩
  go_wp2_with fail
  refine (clone_any pr xs d w1 (hq.kept hb1) (by omega)).mono ?_
  rintro e w2 ⟨q1, rfl, _, hq1, hb2, _⟩
  go_wp2_with fail
  have hp1' := hp1.kept hb2
  refine (cloneNames_any p1 es es.length w2 hp1' hS).mono ?_
  rintro e w3 ⟨p2, rfl, hp2, hb3⟩
  have hp13 := hp1'.kept hb3
  have hq3 := hq1.kept hb3
  have hbel : Below w.heap.size w w3 := (hb1.trans (hb2.mono hb1.size)).trans (hb3.mono (Nat.le_trans hb1.size hb2.size))
  clear hp1 hp1' hq1 hb1 hb2 hb3 hp hq ht
  have hst := SetIs.start w3
  have hgood : ∀ (k : Nat) (e : Nm), es[k]? = some e → Bytey e.2 ∧ e.2.length ≤ 1048576 := fun k e h => ⟨hB e (List.mem_of_getElem? h), hS.2 e (List.mem_of_getElem? h)⟩
  have hn := hS.1
  generalize hl : es.length = n at *
  have HL : Hid (es.length = n) := hl
  have HM : Hid (∀ (k : Nat) (e : Nm), es[k]? = some e → e.2 ∈ bs es) := fun k e h => List.mem_map.2 ⟨e, List.mem_of_getElem? h, rfl⟩
  have HB := hbel
  clear hl hB hS hbel
  go_wp2
  go_loopw [7] (fun i wr => ∃ k : Nat, k ≤ n ∧ i = .int .i64 k ∧ SetIs w3 wr (9 + k) (bs (es.take k))) (fun i _ => n - (intOf i).toNat)
  case atStart => exact ⟨0, Nat.zero_le _, rfl, hst⟩
  case round =>
    obtain ⟨k, hk, rfl, hI⟩ := hrel
    by_cases hlt : k < n
    · obtain ⟨e, he⟩ : ∃ e, es[k]? = some e := ⟨_, List.getElem?_eq_getElem (by rw [HL.out]; exact hlt)⟩
      rcases hp13 with rfl | ⟨b, o, rfl, hc⟩
      · simp at he
      obtain ⟨q, cq, h1, _, h3⟩ := hc k e he
      have hg := hgood k e he
      have h1r : wr.cell? ⟨b, o + k, none⟩ = some (.slice q e.2.length cq) := (hI.below.cell (p := ⟨b, o + k, none⟩) (lt_of_cell h1)).trans h1
      have hki : (k : Int) < (n : Int) := by omega
      have HT := take_bs he
      have HT' : Hid (bs (es.take k) ++ [e.2] = bs (es.take (k + 1))) := HT
      clear HT he hc hst hgood HM hp2
      go_wp2_with fail
      refine (zzAdd_any w3 wr (9 + k) (bs (es.take k)) q e.2 cq hI h3 hg.1 hg.2 (by omega) (by unfold maxLen; omega)).mono ?_
      rintro e1 w4 ⟨rfl, hI'⟩
      rw [HT'.out] at hI'
      clear HT' h1r hI
      go_wp2
      go_roundw
      case rel => exact ⟨k + 1, by omega, by go_num, hI'⟩
      case measure => simp [intOf]; omega
    · obtain rfl : k = n := by omega
      have hI2 : SetIs w3 wr (9 + k) (bs es) := by
        rw [show es.take k = es from by rw [← HL.out]; exact List.take_length] at hI
        exact hI
      clear hI hst
      obtain ⟨wo, rfl⟩ : ∃ wo : World, wo = wr := ⟨_, rfl⟩
      go_wp2
      go_loopw [8] (fun i wr => ∃ j : Nat, j ≤ k ∧ i = .int .i64 j ∧ SetIs w3 wr (9 + k + j) (bs es)) (fun i _ => k - (intOf i).toNat)
      case atStart => exact ⟨0, Nat.zero_le _, rfl, hI2⟩
      case round =>
        obtain ⟨j, hj, rfl, hI⟩ := hrel
        clear hI2
        by_cases hlt : j < k
        · obtain ⟨e, he⟩ : ∃ e, es[j]? = some e := ⟨_, List.getElem?_eq_getElem (by rw [HL.out]; exact hlt)⟩
          rcases hp2 with rfl | ⟨b, o, rfl, hc⟩
          · simp at he
          obtain ⟨q, cq, h1, _, h3⟩ := hc j e he
          have hg := hgood j e he
          have hmem := HM.out j e he
          have h1r : wr.cell? ⟨b, o + j, none⟩ = some (.slice q e.2.length cq) := (hI.below.cell (p := ⟨b, o + j, none⟩) (lt_of_cell h1)).trans h1
          have hki : (j : Int) < (k : Int) := by omega
          have HMM : Hid (e.2 ∈ bs es) := hmem
          clear he hc hgood HM hp13 hmem h1
          go_wp2_with fail
          refine (zzAdd_any w3 wr (9 + k + j) (bs es) q e.2 cq hI h3 hg.1 hg.2 (by omega) (by unfold maxLen; omega)).mono ?_
          rintro e1 w4 ⟨rfl, hI'⟩
          rw [show decide (e.2 ∈ bs es) = true from decide_eq_true HMM.out]
          have hI'' : SetIs w3 w4 (9 + k + (j + 1)) (bs es) := hI'.congr (fun ys => by simp only [List.mem_append, List.mem_singleton]; exact ⟨fun h => h.elim id (fun e => e ▸ HMM.out), .inl⟩)
          clear h1r hI hI'
          go_wp2
          go_roundw
          case rel => exact ⟨j + 1, by omega, by go_num, hI''⟩
          case measure => simp [intOf]; omega
        · obtain rfl : j = k := by omega
          clear hp2
          obtain ⟨wo, rfl⟩ : ∃ wo : World, wo = wr := ⟨_, rfl⟩
          go_wp2
          go_loopw [9, 10] (fun kn i wr => ∃ m : Nat, m ≤ j ∧ i = .int .i64 m ∧ kn = .bool false ∧ SetIs w3 wr (9 + j + j) (bs es) ∧ Hid (xs ∉ bs (es.take m))) (fun _ i _ => j - (intOf i).toNat)
          case atStart => exact ⟨0, Nat.zero_le _, rfl, rfl, hI, by simp [Hid]⟩
          case round =>
            obtain ⟨m, hmj, rfl, rfl, hI2, HN⟩ := hrel
            clear hI
            by_cases hlt : m < j
            · obtain ⟨e, he⟩ : ∃ e, es[m]? = some e := ⟨_, List.getElem?_eq_getElem (by rw [HL.out]; exact hlt)⟩
              rcases hp13 with rfl | ⟨b, o, rfl, hc⟩
              · simp at he
              obtain ⟨q, cq, h1, _, h3⟩ := hc m e he
              have hg := hgood m e he
              have h1r : wr.cell? ⟨b, o + m, none⟩ = some (.slice q e.2.length cq) := (hI2.below.cell (p := ⟨b, o + m, none⟩) (lt_of_cell h1)).trans h1
              have h3r := h3.kept hI2.below
              have hq3r := hq3.kept hI2.below
              have hki : (m : Int) < (j : Int) := by omega
              have hmem := HM.out m e he
              have HMM : Hid (e.2 ∈ bs es) := hmem
              have HT := take_bs he
              have HT' : Hid (bs (es.take m) ++ [e.2] = bs (es.take (m + 1))) := HT
              clear HT he hc hgood HM hmem h1 h3
              go_wp2_with fail
              refine (zzEq_any q q1 e.2 xs cq xs.length wr h3r hq3r (by omega)).mono ?_
              rintro e1 w4 ⟨rfl, nd, rfl⟩
              cases hee : (e.2 == xs)
              · have hne : e.2 ≠ xs := by simpa using hee
                have HN' : Hid (xs ∉ bs (es.take (m + 1))) := by
                  rw [← HT'.out]
                  show xs ∉ _
                  simp only [List.mem_append, List.mem_singleton, not_or]
                  exact ⟨HN.out, fun h => hne h.symm⟩
                clear hne hee h1r h3r hq3r
                have hI3 := hI2.drewN nd
                clear hI2
                go_wp2
                go_roundw
                case rel => exact ⟨m + 1, by omega, by go_num, rfl, hI3, HN'⟩
                case measure => simp [intOf]; omega
              · have hxe : e.2 = xs := by simpa using hee
                have HX : Hid (xs ∈ bs es) := hxe ▸ HMM.out
                clear hxe hee h1r h3r hq3r
                have hI3 := hI2.drewN nd
                clear hI2
                go_wp2_with fail
                refine (zzAdd_any w3 (wr.drewN nd) (9 + j + j) (bs es) q1 xs xs.length hI3 hq3 hbx hm (by omega) (by unfold maxLen; omega)).mono ?_
                rintro e1 w4 ⟨rfl, hI4⟩
                rw [show decide (xs ∈ bs es) = true from decide_eq_true HX.out]
                clear hI3
                go_wp2_with fail
                refine (zzAdd_any w3 w4 (9 + j + j + 1) (bs es ++ [xs]) q1 xs xs.length hI4 hq3 hbx hm (by omega) (by unfold maxLen; omega)).mono ?_
                rintro e1 w5 ⟨rfl, hI5⟩
                rw [show decide (xs ∈ bs es ++ [xs]) = true from decide_eq_true (by simp)]
                have hfin := HB.trans (hI5.below.mono HB.size)
                clear hI4 hI5
                go_wp2
                go_ret
                exact ⟨rfl, hfin⟩
            · obtain rfl : m = j := by omega
              have HX : Hid (xs ∉ bs es) := by
                rw [show es.take m = es from by rw [← HL.out]; exact List.take_length] at HN
                exact HN
              go_wp2_with fail
              refine (zzAdd_any w3 wr (9 + m + m) (bs es) q1 xs xs.length hI2 hq3 hbx hm (by omega) (by unfold maxLen; omega)).mono ?_
              rintro e1 w4 ⟨rfl, hI4⟩
              rw [show decide (xs ∈ bs es) = false from decide_eq_false HX.out]
              clear hI2
              go_wp2_with fail
              refine (zzAdd_any w3 w4 (9 + m + m + 1) (bs es ++ [xs]) q1 xs xs.length hI4 hq3 hbx hm (by omega) (by unfold maxLen; omega)).mono ?_
              rintro e1 w5 ⟨rfl, hI5⟩
              rw [show decide (xs ∈ bs es ++ [xs]) = true from decide_eq_true (by simp)]
              have hfin := HB.trans (hI5.below.mono HB.size)
              clear hI4 hI5
              go_wp2
              go_ret
              exact ⟨rfl, hfin⟩
end Go.Proofs.Qxb6604185a
