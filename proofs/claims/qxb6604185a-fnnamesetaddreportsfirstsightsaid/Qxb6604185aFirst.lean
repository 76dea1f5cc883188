import Derived.Test.Qxb6604185aTwice
namespace Go.Proofs.Qxb6604185a
open Go.RowKit Go.Maps

set_option maxHeartbeats 1600000 in
theorem first_walk (p : Option Addr) (es : List Nm) (c : Nat) (w : World) (hp : NamesAt w p es) (hB : ∀ e ∈ es, Bytey e.2) :
    Calls Try.prog 4 #[.slice p es.length c] w fun e w' => e = .returned (.bool true) ∧ Below w.heap.size w w' := by
  go_enter Try.func4, Try.ntmps4
  go_wp2_with fail
  refine (bytesA_any p es c w hp).mono ?_
  rintro e w' ⟨⟨t, rfl, ht⟩, hw⟩
  obtain rfl : w = w' := hw.symm
  cases t
  · go_wp2
    go_ret
    exact ⟨rfl, Below.refl _ _⟩
  have hS := ht rfl
  go_wp2_with fail
  refine (fit_any p es c 0 w hp hS (by omega)).mono ?_
  rintro e w' ⟨⟨t, rfl, _⟩, hw⟩
  obtain rfl : w = w' := hw.symm
  cases t
  · go_wp2
    go_ret
    exact ⟨rfl, Below.refl _ _⟩
  by_cases h4 : es.length ≤ 4096
  case neg =>
    have h4' : (4096 : Int) < (es.length : Int) := by omega
    go_wp2
    go_ret
    exact ⟨rfl, Below.refl _ _⟩
  go_wp2_with fail
  refine (cloneNames_any p es c w hp hS).mono ?_
  rintro e w1 ⟨p1, rfl, hp1, hb1⟩
  go_wp2_with fail
  refine (cloneNames_any p1 es es.length w1 hp1 hS).mono ?_
  rintro e w3 ⟨p2, rfl, hp2, hb3⟩
  have hp13 := hp1.kept hb3
  have HB : Below w.heap.size w w3 := hb1.trans (hb3.mono hb1.size)
  clear hp1 hb1 hb3 hp ht
  have hst := SetIs.start w3
  have hgood : ∀ (k : Nat) (e : Nm), es[k]? = some e → Bytey e.2 ∧ e.2.length ≤ 1048576 := fun k e h => ⟨hB e (List.mem_of_getElem? h), hS.2 e (List.mem_of_getElem? h)⟩
  have hn := hS.1
  generalize hl : es.length = n at *
  have HL : Hid (es.length = n) := hl
  clear hl hB hS
  go_wp2
  go_loopw [5] (fun i wr => ∃ k : Nat, k ≤ n ∧ i = .int .i64 k ∧ SetIs w3 wr (9 + k) (bs (es.take k))) (fun i _ => n - (intOf i).toNat)
  case atStart => exact ⟨0, Nat.zero_le _, rfl, hst⟩
  case round =>
    obtain ⟨k, hk, rfl, hI⟩ := hrel
    clear hst
    by_cases hlt : k < n
    · obtain ⟨e, he⟩ : ∃ e, es[k]? = some e := ⟨_, List.getElem?_eq_getElem (by rw [HL.out]; exact hlt)⟩
      rcases hp13 with rfl | ⟨b, o, rfl, hc⟩
      · simp at he
      rcases hp2 with rfl | ⟨b', o', rfl, hc'⟩
      · simp at he
      obtain ⟨q, cq, h1, _, h3⟩ := hc k e he
      obtain ⟨q', cq', h1', _, h3'⟩ := hc' k e he
      have hg := hgood k e he
      have h1r : wr.cell? ⟨b, o + k, none⟩ = some (.slice q e.2.length cq) := (hI.below.cell (p := ⟨b, o + k, none⟩) (lt_of_cell h1)).trans h1
      have hki : (k : Int) < (n : Int) := by omega
      have HT' : Hid (bs (es.take k) ++ [e.2] = bs (es.take (k + 1))) := take_bs he
      clear hc he
      obtain ⟨wo, rfl⟩ : ∃ wo : World, wo = wr := ⟨_, rfl⟩
      go_wp2_with fail
      refine (zzAdd_any w3 wo (9 + k) (bs (es.take k)) q e.2 cq hI h3 hg.1 hg.2 (by omega) (by unfold maxLen; omega)).mono ?_
      rintro e1 w4 ⟨rfl, hI'⟩
      rw [HT'.out] at hI'
      clear HT' h1r hI h1 h3
      cases hin : decide (e.2 ∈ bs (es.take k))
      · have hin' : Hid (e.2 ∉ bs (es.take k)) := of_decide_eq_false hin
        clear hin
        go_wp2
        go_loopw [7, 8] (fun wa j wr => ∃ m : Nat, m ≤ k ∧ j = .int .i64 m ∧ wa = .bool true ∧ SetIs w3 wr (9 + k + 1) (bs (es.take (k + 1)))) (fun _ j _ => k - (intOf j).toNat)
        case atStart => exact ⟨0, Nat.zero_le _, rfl, rfl, hI'⟩
        case round =>
          obtain ⟨m, hm, rfl, rfl, hI2⟩ := hrel
          clear hI'
          by_cases hmk : m < k
          · obtain ⟨f, hf⟩ : ∃ f, es[m]? = some f := ⟨_, List.getElem?_eq_getElem (by rw [HL.out]; omega)⟩
            obtain ⟨qf, cf, f1, _, f3⟩ := hc' m f hf
            have hgf := hgood m f hf
            have f1r : wr.cell? ⟨b', o' + m, none⟩ = some (.slice qf f.2.length cf) := (hI2.below.cell (p := ⟨b', o' + m, none⟩) (lt_of_cell f1)).trans f1
            have k1r : wr.cell? ⟨b', o' + k, none⟩ = some (.slice q' e.2.length cq') := (hI2.below.cell (p := ⟨b', o' + k, none⟩) (lt_of_cell h1')).trans h1'
            have f3r := fun n => f3.kept (below_drewN hI2.below n)
            have k3r := fun n => h3'.kept (below_drewN hI2.below n)
            have hmi : (m : Int) < (n : Int) := by omega
            have hmk' : (m : Int) < (k : Int) := by omega
            have hne : (f.2 == e.2) = false := by
              rw [beq_eq_false_iff_ne]
              intro h
              refine hin'.out (h ▸ List.mem_map.2 ⟨f, ?_, rfl⟩)
              exact List.mem_of_getElem? (i := m) (by rw [List.getElem?_take_of_lt hmk]; exact hf)
            have heq := fun n => zzEq_any qf q' f.2 e.2 cf cq' (wr.drewN n) (f3r n) (k3r n) (by omega)
            rw [hne] at heq
            have hI3 := fun n => hI2.drewN n
            clear hc' hf hgood hne f3r k3r f1 f3 h1' h3' hI2
            go_wp2
            go_quiet ((go_at_call 15; exact Calls.quiet_of (heq _)))
            clear heq
            go_wp2
            go_roundw
            case rel => exact ⟨m + 1, by omega, by go_num, rfl, hI3 _⟩
            case measure => simp [intOf]; omega
          · go_wp2
            go_roundw
            case rel => exact ⟨k + 1, by omega, by go_num, hI2⟩
            case measure => simp [intOf]; omega
      · have hin' : Hid (e.2 ∈ bs (es.take k)) := (of_decide_eq_true hin : e.2 ∈ bs (es.take k))
        clear hin
        go_wp2
        go_loopw [7, 8] (fun wa j wr => ∃ m : Nat, m ≤ k ∧ j = .int .i64 m ∧ wa = .bool true ∧ SetIs w3 wr (9 + k + 1) (bs (es.take (k + 1))) ∧ Hid (e.2 ∉ bs (es.take m))) (fun _ j _ => k - (intOf j).toNat)
        case atStart => exact ⟨0, Nat.zero_le _, rfl, rfl, hI', by simp [Hid]⟩
        case round =>
          obtain ⟨m, hm, rfl, rfl, hI2, HN⟩ := hrel
          clear hI'
          by_cases hmk : m < k
          · obtain ⟨f, hf⟩ : ∃ f, es[m]? = some f := ⟨_, List.getElem?_eq_getElem (by rw [HL.out]; omega)⟩
            obtain ⟨qf, cf, f1, _, f3⟩ := hc' m f hf
            have hgf := hgood m f hf
            have f1r : wr.cell? ⟨b', o' + m, none⟩ = some (.slice qf f.2.length cf) := (hI2.below.cell (p := ⟨b', o' + m, none⟩) (lt_of_cell f1)).trans f1
            have k1r : wr.cell? ⟨b', o' + k, none⟩ = some (.slice q' e.2.length cq') := (hI2.below.cell (p := ⟨b', o' + k, none⟩) (lt_of_cell h1')).trans h1'
            have f3r := fun n => f3.kept (below_drewN hI2.below n)
            have k3r := fun n => h3'.kept (below_drewN hI2.below n)
            have hmi : (m : Int) < (n : Int) := by omega
            have hmk' : (m : Int) < (k : Int) := by omega
            have heq := fun n => zzEq_any qf q' f.2 e.2 cf cq' (wr.drewN n) (f3r n) (k3r n) (by omega)
            have hI3 := fun n => hI2.drewN n
            have HT' : Hid (bs (es.take m) ++ [f.2] = bs (es.take (m + 1))) := take_bs hf
            clear hc' hf hgood f3r k3r f1 f3 h1' h3' hI2
            cases hee : (f.2 == e.2)
            · rw [hee] at heq
              have HN' : Hid (e.2 ∉ bs (es.take (m + 1))) := by
                rw [← HT'.out]
                show e.2 ∉ _
                simp only [List.mem_append, List.mem_singleton, not_or]
                have : f.2 ≠ e.2 := by simpa using hee
                exact ⟨HN.out, fun h => this h.symm⟩
              clear hee
              go_wp2
              go_quiet ((go_at_call 15; exact Calls.quiet_of (heq _)))
              clear heq
              go_wp2
              go_roundw
              case rel => exact ⟨m + 1, by omega, by go_num, rfl, hI3 _, HN'⟩
              case measure => simp [intOf]; omega
            · rw [hee] at heq
              clear hee
              go_wp2
              go_quiet ((go_at_call 15; exact Calls.quiet_of (heq _)))
              clear heq
              go_wp2
              go_roundw
              case rel => exact ⟨k + 1, by omega, by go_num, hI3 _⟩
              case measure => simp [intOf]; omega
          · obtain rfl : m = k := by omega
            exact absurd hin'.out HN.out
    · have hIb := hI.below
      clear hI
      obtain ⟨wo, rfl⟩ : ∃ wo : World, wo = wr := ⟨_, rfl⟩
      go_wp2
      go_loopw [9] (fun i wr => ∃ m : Nat, m ≤ n ∧ i = .int .i64 m ∧ Below w3.heap.size w3 wr) (fun i _ => n - (intOf i).toNat)
      case atStart => exact ⟨0, Nat.zero_le _, rfl, hIb⟩
      case round =>
        obtain ⟨m, hm, rfl, hb⟩ := hrel
        clear hIb
        by_cases hmn : m < n
        · obtain ⟨f, hf⟩ : ∃ f, es[m]? = some f := ⟨_, List.getElem?_eq_getElem (by rw [HL.out]; omega)⟩
          rcases hp13 with rfl | ⟨b, o, rfl, hc⟩
          · simp at hf
          rcases hp2 with rfl | ⟨b', o', rfl, hc'⟩
          · simp at hf
          obtain ⟨q, cq, h1, hq, h3⟩ := hc m f hf
          obtain ⟨q', cq', h1', hq', h3'⟩ := hc' m f hf
          have hgf := hgood m f hf
          have h1r : wr.cell? ⟨b, o + m, none⟩ = some (.slice q f.2.length cq) := (hb.cell (p := ⟨b, o + m, none⟩) (lt_of_cell h1)).trans h1
          have h1r' : wr.cell? ⟨b', o' + m, none⟩ = some (.slice q' f.2.length cq') := (hb.cell (p := ⟨b', o' + m, none⟩) (lt_of_cell h1')).trans h1'
          have hsm := fun n => same_any q q' f.2 f.2 cq cq' (wr.drewN n) (h3.kept (below_drewN hb n)) (h3'.kept (below_drewN hb n)) (by omega)
          rw [show (q.isNone == q'.isNone && f.2 == f.2) = true from by rw [hq, hq']; simp] at hsm
          have hmi : (m : Int) < (n : Int) := by omega
          have hb3 := fun n => below_drewN hb n
          clear hc hc' hf hgood h1 h3 h1' h3' hq hq' hb
          go_wp2
          go_quiet ((go_at_call 10; exact Calls.quiet_of (hsm _)))
          clear hsm
          go_wp2
          go_roundw
          case rel => exact ⟨m + 1, by omega, by go_num, hb3 _⟩
          case measure => simp [intOf]; omega
        · go_wp2
          go_ret
          exact ⟨rfl, HB.trans (hb.mono HB.size)⟩
end Go.Proofs.Qxb6604185a
