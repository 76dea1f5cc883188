import Derived.Test.Qxb6604220aStrs
namespace Go.Proofs.Qxb6604220a
open Go.RowKit

/-- the pointer of field i -/
def pt (pv : Option Addr) (m i : Nat) : Option Addr := if i < m then pv.map (fun a => ⟨a.block, a.off + i, none⟩) else none
theorem pt_in {bv ov m i : Nat} (h : i < m) : pt (some ⟨bv, ov, none⟩) m i = some ⟨bv, ov + i, none⟩ := by simp [pt, h]
theorem pt_out {pv : Option Addr} {m i : Nat} (h : ¬ i < m) : pt pv m i = none := by simp [pt, h]

def fds (ss : List ByteArray) (pv : Option Addr) (m : Nat) : List Fd := ss.zipIdx.map fun x => (x.1, pt pv m x.2)
theorem fds_length (ss : List ByteArray) (pv : Option Addr) (m : Nat) : (fds ss pv m).length = ss.length := by simp [fds]
theorem fds_get (ss : List ByteArray) (pv : Option Addr) (m i : Nat) : (fds ss pv m)[i]? = ss[i]?.map fun s => (s, pt pv m i) := by
  simp [fds, List.getElem?_zipIdx, Function.comp_def]

structure FMid (w2 wr : World) (ss : List ByteArray) (pv : Option Addr) (m k : Nat) : Prop where
  below : Below w2.heap.size w2 wr
  row : ∃ C : Array Value, wr.heap[w2.heap.size]? = some (.cells C 30 (0, 0)) ∧ C.size = ss.length * 2 ∧
    ∀ (i : Nat) s, i < k → ss[i]? = some s → C[i * 2]? = some (.string s) ∧ C[i * 2 + 1]? = some (.pointer (pt pv m i))

theorem FMid.start (w2 : World) (ss : List ByteArray) (pv : Option Addr) (m : Nat) (C : Array Value) (hC : C.size = ss.length * 2) : FMid w2 (w2.alloc (.cells C 30)) ss pv m 0 where
  below := (Below.refl _ _).alloc (Nat.le_refl _) _
  row := ⟨C, by show (w2.heap.push _)[w2.heap.size]? = _; simp, hC, fun i s hi => by omega⟩

theorem FMid.step {w2 wr : World} {ss : List ByteArray} {pv : Option Addr} {m k : Nat} (h : FMid w2 wr ss pv m k) {s : ByteArray} (hs : ss[k]? = some s) {P : Option Addr} (hP : P = pt pv m k) (o : Obj) :
    FMid w2 (((wr.setCell ⟨w2.heap.size, k * 2, none⟩ (.string s)).setCell ⟨w2.heap.size, k * 2 + 1, none⟩ (.pointer P)).alloc o) ss pv m (k + 1) := by
  obtain ⟨C, hC, hsz, hat⟩ := h.row
  have hlt := size_of_block hC
  have hk : k < ss.length := (List.getElem?_eq_some_iff.1 hs).1
  have hC2 := block_setCell (i := k * 2 + 1) (block_setCell (i := k * 2) hC (.string s)) (.pointer P)
  have e : ((wr.setCell ⟨w2.heap.size, k * 2, none⟩ (.string s)).setCell ⟨w2.heap.size, k * 2 + 1, none⟩ (.pointer P)).heap.size = wr.heap.size := by simp [World.setCell]
  refine ⟨((h.below.setCell (Nat.le_refl _) _).setCell (Nat.le_refl _) _).alloc (by rw [e]; omega) _, (C.setIfInBounds (k * 2) (.string s)).setIfInBounds (k * 2 + 1) (.pointer P), ?_, ?_, ?_⟩
  · rw [Below.heap_alloc _ _ _ (by rw [e]; exact hlt)]
    exact hC2
  · simpa using hsz
  · intro i s' hi hs'
    rcases Nat.lt_succ_iff_lt_or_eq.1 hi with hi | rfl
    · obtain ⟨h1, h2⟩ := hat i s' hi hs'
      rw [Array.getElem?_setIfInBounds_ne (by omega), Array.getElem?_setIfInBounds_ne (by omega), Array.getElem?_setIfInBounds_ne (by omega), Array.getElem?_setIfInBounds_ne (by omega)]
      exact ⟨h1, h2⟩
    · rw [hs] at hs'
      cases hs'
      rw [Array.getElem?_setIfInBounds_ne (by omega), Array.getElem?_setIfInBounds_self, if_pos (by omega), Array.getElem?_setIfInBounds_self, if_pos (by simp; omega), hP]
      exact ⟨rfl, rfl⟩

theorem FMid.fields {w2 wr : World} {ss : List ByteArray} {pv : Option Addr} {m : Nat} (h : FMid w2 wr ss pv m ss.length) : FieldsAt wr (some ⟨w2.heap.size, 0, none⟩) (fds ss pv m) := by
  obtain ⟨C, hC, hsz, hat⟩ := h.row
  refine .inr ⟨_, _, rfl, fun i f hi => ?_⟩
  rw [fds_get] at hi
  obtain ⟨s, hs, rfl⟩ := Option.map_eq_some_iff.1 hi
  obtain ⟨h1, h2⟩ := hat i s (List.getElem?_eq_some_iff.1 hs).1 hs
  rw [cell_block hC, cell_block hC, Nat.zero_add]
  exact ⟨h1, h2⟩

/-- WHAT THE BACKWARD SCAN HOLDS, down to k: -1, or the least index from k on that matches -/
def Scan (ss : List ByteArray) (q : ByteArray) (k : Nat) (fi : Int) : Prop :=
  (fi = -1 ∧ ∀ (j : Nat) s, k ≤ j → ss[j]? = some s → (s.toList == q.toList) = false) ∨
  ∃ (j0 : Nat) (s0 : ByteArray), k ≤ j0 ∧ fi = (j0 : Int) ∧ ss[j0]? = some s0 ∧ (s0.toList == q.toList) = true ∧ ∀ (j : Nat) s, k ≤ j → j < j0 → ss[j]? = some s → (s.toList == q.toList) = false

theorem Scan.start (ss : List ByteArray) (q : ByteArray) : Scan ss q ss.length (-1) :=
  .inl ⟨rfl, fun j s hj hs => by have := (List.getElem?_eq_some_iff.1 hs).1; omega⟩
theorem Scan.hit {ss : List ByteArray} {q : ByteArray} {k : Nat} {s : ByteArray} (hs : ss[k]? = some s) (he : (s.toList == q.toList) = true) : Scan ss q k (k : Int) :=
  .inr ⟨k, s, Nat.le_refl _, rfl, hs, he, fun j s' h1 h2 => by omega⟩
theorem Scan.miss {ss : List ByteArray} {q : ByteArray} {k : Nat} {fi : Int} (h : Scan ss q (k + 1) fi) {s : ByteArray} (hs : ss[k]? = some s) (he : (s.toList == q.toList) = false) : Scan ss q k fi := by
  rcases h with ⟨e, h⟩ | ⟨j0, s0, h1, h2, h3, h4, h5⟩
  · refine .inl ⟨e, fun j s' hj hs' => ?_⟩
    rcases Nat.eq_or_lt_of_le hj with rfl | hj
    · rw [hs] at hs'; cases hs'; exact he
    · exact h j s' hj hs'
  · refine .inr ⟨j0, s0, by omega, h2, h3, h4, fun j s' hj hj0 hs' => ?_⟩
    rcases Nat.eq_or_lt_of_le hj with rfl | hj
    · rw [hs] at hs'; cases hs'; exact he
    · exact h5 j s' hj hj0 hs'

theorem Scan.none {ss : List ByteArray} {q : ByteArray} (pv : Option Addr) (m : Nat) {fi : Int} (h : Scan ss q 0 fi) (hn : fi < 0) : res (fds ss pv m) q = ({ data := #[] }, none, false) := by
  rcases h with ⟨_, h⟩ | ⟨j0, s0, _, h2, _⟩
  · refine res_none fun j f hj => ?_
    rw [fds_get] at hj
    obtain ⟨s, hs, rfl⟩ := Option.map_eq_some_iff.1 hj
    exact h j s (Nat.zero_le _) hs
  · omega
theorem Scan.some {ss : List ByteArray} {q : ByteArray} (pv : Option Addr) (m : Nat) {fi : Int} (h : Scan ss q 0 fi) (hn : ¬ fi < 0) : ∃ (j : Nat) (s : ByteArray), fi = (j : Int) ∧ j < ss.length ∧ (s.toList == q.toList) = true ∧ res (fds ss pv m) q = (s, pt pv m j, true) := by
  rcases h with ⟨e, _⟩ | ⟨j0, s0, _, h2, h3, h4, h5⟩
  · omega
  · refine ⟨j0, s0, h2, (List.getElem?_eq_some_iff.1 h3).1, h4, ?_⟩
    refine res_found (f := (s0, pt pv m j0)) (k := j0) ?_ ?_ h4
    · intro j f hj hf
      rw [fds_get] at hf
      obtain ⟨s, hs, rfl⟩ := Option.map_eq_some_iff.1 hf
      exact h5 j s (Nat.zero_le _) hj hs
    · show (fds ss pv m)[j0]? = Option.some (s0, pt pv m j0)
      rw [fds_get, h3]
      rfl

theorem Try.info30 : (Try.prog.info? 30).map (fun i => (i.zero, i.size, i.bytes)) = Option.some (Option.some (.agg #[.string { data := #[] }, .pointer Option.none]), 2, 24) := by kernel_rfl

set_option maxRecDepth 100000 in
set_option maxHeartbeats 2000000 in
theorem first_walk (p r : Option Addr) (ss ts : List ByteArray) (c d : Nat) (q : ByteArray) (w : World) (hp : StrsAt w p ss) (hr : StrsAt w r ts) :
    Calls Try.prog 4 #[.slice p ss.length c, .slice r ts.length d, .string q] w fun e w' => e = .returned (.bool true) ∧ Below w.heap.size w w' := by
  go_enter Try.func4, Try.ntmps4
  go_wp2_with fail
  refine (bytesF_any p r ss ts c d q w hp hr).mono ?_
  rintro e w' ⟨⟨t, rfl, ht⟩, hw⟩
  obtain rfl : w = w' := hw.symm
  cases t
  · go_wp2
    go_ret
    exact ⟨rfl, Below.refl _ _⟩
  obtain ⟨b1, b2, b3⟩ := ht rfl
  clear ht
  by_cases hbig : ss.length ≤ 65536 ∧ ts.length ≤ 65536
  case neg =>
    rcases Nat.lt_or_ge 65536 ss.length with h | h
    · have h' : (65536 : Int) < (ss.length : Int) := by omega
      go_wp2
      go_ret
      exact ⟨rfl, Below.refl _ _⟩
    · have h' : ¬ (65536 : Int) < (ss.length : Int) := by omega
      have h'' : (65536 : Int) < (ts.length : Int) := by omega
      go_wp2
      go_ret
      exact ⟨rfl, Below.refl _ _⟩
  obtain ⟨hn, hm⟩ := hbig
  by_cases htot : q.size + 16 * ss.length + 16 * ts.length ≤ 1048576
  case neg =>
    have h' : (1048576 : Int) < (q.size : Int) + 16 * (ss.length : Int) + 16 * (ts.length : Int) := by omega
    go_wp2_with fail
    go_ret
    exact ⟨rfl, Below.refl _ _⟩
  have hclp := clone_any p ss c w hp b1
  have hg := fun k (hk : k < ss.length) => hp.get hk
  have hg' := fun k (hk : k < ts.length) => hr.get hk
  generalize hl : ss.length = n at *
  have HL : Hid (ss.length = n) := hl
  clear hl
  generalize hl : ts.length = m at *
  have HL' : Hid (ts.length = m) := hl
  clear hl
  go_wp2_with fail
  go_loop [7, 8] (fun s i => ∃ k t : Nat, k ≤ n ∧ i = .int .i64 k ∧ s = .int .i64 t ∧ t ≤ 1048576) (fun _ i => n - (intOf i).toNat)
  case atStart => exact ⟨0, q.size + 16 * n + 16 * m, by omega, rfl, by go_num, by omega⟩
  case round =>
    obtain ⟨k, t, hk, rfl, rfl, ht⟩ := hrel
    by_cases hlt : k < n
    · obtain ⟨b, o, s, rfl, hs, h1⟩ := hg k hlt
      have hki : (k : Int) < (n : Int) := by omega
      clear hg hg' hs hclp
      go_wp2
      · go_ret
        exact ⟨rfl, Below.refl _ _⟩
      · go_ret
        exact ⟨rfl, Below.refl _ _⟩
      · go_round
        case rel => exact ⟨k + 1, t + s.size, by omega, by go_num, by go_num, by omega⟩
        case measure => simp [intOf]; omega
    · clear hg
      go_wp2_with fail
      go_loop [7, 9] (fun s i => ∃ j t : Nat, j ≤ m ∧ i = .int .i64 j ∧ s = .int .i64 t ∧ t ≤ 1048576) (fun _ i => m - (intOf i).toNat)
      case atStart => exact ⟨0, t, by omega, rfl, rfl, ht⟩
      case round =>
        obtain ⟨j, t, hj, rfl, rfl, ht⟩ := hrel
        by_cases hlt : j < m
        · obtain ⟨b, o, s, rfl, hs, h1⟩ := hg' j hlt
          have hki : (j : Int) < (m : Int) := by omega
          clear hg' hs hclp
          go_wp2
          · go_ret
            exact ⟨rfl, Below.refl _ _⟩
          · go_ret
            exact ⟨rfl, Below.refl _ _⟩
          · go_round
            case rel => exact ⟨j + 1, t + s.size, by omega, by go_num, by go_num, by omega⟩
            case measure => simp [intOf]; omega
        · clear hg'
          go_wp2_with fail
          refine hclp.mono ?_
          rintro e w1 ⟨p1, rfl, hp1, hb1⟩
          have hclr := clone_any r ts d w1 (hr.kept hb1) (by rw [HL'.out]; omega)
          rw [HL'.out] at hclr
          clear hclp hp hr
          go_wp2_with fail
          refine hclr.mono ?_
          rintro e w2 ⟨pv, rfl, hr2, hb2⟩
          have hp2 := hp1.kept hb2
          have hB2 : Below w.heap.size w w2 := hb1.trans (hb2.mono hb1.size)
          clear hclr hb1 hb2 hp1
          obtain ⟨i0, hi, hz0, hz1, hz2⟩ := info_parts Try.info30
          have hmk := run_make (P := Try.prog) w2 25 30 i0 _ Try.underlying25 hi hz0 .i64 .i64 (n : Int) (n : Int) (by omega) (by omega) (by rw [hz2]; omega) (by omega)
          rw [hz1, Int.toNat_natCast] at hmk
          have HM := FMid.start w2 ss pv m (madeCells (Value.agg #[.string { data := #[] }, .pointer none]).cells (n * 2)) (by rw [size_madeCells, HL.out])
          generalize madeCells (Value.agg #[.string { data := #[] }, .pointer none]).cells (n * 2) = C0 at *
          clear hz0 hz1 hz2 hi
          have e28 := eq28
          have hgp := fun k (hk : k < ss.length) => hp2.get hk
          have hgr := fun k (hk : k < ts.length) => hr2.get hk
          rw [HL.out] at hgp
          rw [HL'.out] at hgr
          go_wp2_with fail
          clear hmk
          go_loopw [11] (fun i wr => ∃ k : Nat, k ≤ n ∧ i = .int .i64 k ∧ FMid w2 wr ss pv m k) (fun i _ => n - (intOf i).toNat)
          case atStart => exact ⟨0, Nat.zero_le _, rfl, HM⟩
          case round =>
            obtain ⟨k, hk, rfl, hM⟩ := hrel
            clear HM
            by_cases hlt : k < n
            · obtain ⟨b, o, s, rfl, hs, h1⟩ := hgp k hlt
              have h1r : wr.cell? ⟨b, o + k, none⟩ = some (.string s) := (hM.below.cell (p := ⟨b, o + k, none⟩) (lt_of_cell h1)).trans h1
              have hki : (k : Int) < (n : Int) := by omega
              obtain ⟨C, hC, hsz, _⟩ := hM.row
              have hBl := size_of_block hC
              have v0 : ∃ v, wr.cell? ⟨w2.heap.size, k * 2, none⟩ = some v := ⟨_, (cell_block hC).trans (Array.getElem?_eq_getElem (by rw [hsz, HL.out]; omega))⟩
              have v1 : ∃ v, wr.cell? ⟨w2.heap.size, k * 2 + 1, none⟩ = some v := ⟨_, (cell_block hC).trans (Array.getElem?_eq_getElem (by rw [hsz, HL.out]; omega))⟩
              obtain ⟨v0, hv0⟩ := v0
              obtain ⟨v1, hv1⟩ := v1
              have fz := fun i => frozen_block (i := i) hC
              have HS : Hid (ss[k]? = some s) := hs
              clear hgp hs h1 hC hsz
              by_cases hkm : k < m
              · obtain ⟨bv, ov, sv, rfl, _, _⟩ := hgr k hkm
                have hkm' : (k : Int) < (m : Int) := by omega
                have HP : Hid (some ⟨bv, ov + k, none⟩ = pt (some ⟨bv, ov, none⟩) m k) := (pt_in hkm).symm
                have hst := fun o => hM.step HS.out HP.out o
                clear hM hgr
                go_wp2_with fail
                refine (make_any s (some ⟨bv, ov + k, none⟩) wr).mono ?_
                rintro e w3 ⟨rfl, rfl⟩
                go_wp2
                go_roundw
                case rel => exact ⟨k + 1, by omega, by go_num, hst _⟩
                case measure => simp [intOf]; omega
              · have hkm' : ¬ (k : Int) < (m : Int) := by omega
                have HP : Hid (none = pt pv m k) := (pt_out hkm).symm
                have hst := fun o => hM.step HS.out HP.out o
                clear hM hgr
                go_wp2_with fail
                refine (make_any s none wr).mono ?_
                rintro e w3 ⟨rfl, rfl⟩
                go_wp2
                go_roundw
                case rel => exact ⟨k + 1, by omega, by go_num, hst _⟩
                case measure => simp [intOf]; omega
            · obtain rfl : k = n := by omega
              have hF : FieldsAt wr (some ⟨w2.heap.size, 0, none⟩) (fds ss pv m) := by
                have h := hM
                rw [← HL.out] at h
                exact h.fields
              have hlk := zzLookup_any _ (fds ss pv m) k q wr hF (by rw [fds_length, HL.out]; omega)
              rw [fds_length, HL.out] at hlk
              obtain ⟨nm, pp, ok, hres⟩ : ∃ nm pp ok, res (fds ss pv m) q = (nm, pp, ok) := ⟨_, _, _, rfl⟩
              have HR : Hid (res (fds ss pv m) q = (nm, pp, ok)) := hres
              rw [hres] at hlk
              clear hres hF
              go_wp2_with fail
              refine hlk.mono ?_
              rintro e w5 ⟨rfl, hb5⟩
              have hB25 : Below w2.heap.size w2 w5 := hM.below.trans (hb5.mono hM.below.size)
              have hB5 : Below w.heap.size w w5 := hB2.trans (hB25.mono hB2.size)
              have hgp5 : ∀ j, j < k → ∃ b o s, p1 = some ⟨b, o, none⟩ ∧ ss[j]? = some s ∧ w5.cell? ⟨b, o + j, none⟩ = some (.string s) ∧ b < w5.heap.size := fun j hj => by
                obtain ⟨b, o, s, e, hs, h1⟩ := hgp j hj
                have h1' := (hB25.cell (p := ⟨b, o + j, none⟩) (lt_of_cell h1)).trans h1
                exact ⟨b, o, s, e, hs, h1', lt_of_cell h1'⟩
              clear hlk hM hgp hb5 hB25 hB2 hp2 hr2
              go_wp2_with fail
              go_loop [15, 16] (fun fi i => ∃ (j : Nat) (f : Int), j ≤ k ∧ i = .int .i64 ((j : Int) - 1) ∧ fi = .int .i64 f ∧ -1 ≤ f ∧ f < 65537 ∧ Hid (Scan ss q j f)) (fun _ i => (intOf i + 1).toNat)
              case atStart =>
                refine ⟨k, -1, Nat.le_refl _, rfl, rfl, by omega, by omega, ?_⟩
                have h := Scan.start ss q
                rw [HL.out] at h
                exact h
              case round =>
                obtain ⟨j, f, hj, rfl, rfl, hf1, hf2, HSc⟩ := hrel
                by_cases hj0 : j = 0
                · subst hj0
                  rw [show (((0 : Nat) : Int) - 1) = -1 from by omega]
                  clear hgp5
                  by_cases hf : f < 0
                  · have hr3 := HR.out.symm.trans (HSc.out.none pv m hf)
                    simp only [Prod.mk.injEq] at hr3
                    obtain ⟨rfl, rfl, rfl⟩ := hr3
                    clear HR HSc hgr
                    go_wp2_with fail
                    refine (name_any { data := #[] } none _).mono ?_
                    rintro e w6 ⟨rfl, rfl⟩
                    go_wp2_with fail
                    refine (value_any { data := #[] } none _).mono ?_
                    rintro e w6 ⟨rfl, rfl⟩
                    go_wp2_with fail
                    go_ret
                    exact ⟨rfl, below3 hB5⟩
                  · obtain ⟨j0, s0, rfl, hj0, he, hr3⟩ := HSc.out.some pv m hf
                    have hr4 := HR.out.symm.trans hr3
                    simp only [Prod.mk.injEq] at hr4
                    obtain ⟨rfl, hpp, rfl⟩ := hr4
                    rw [HL.out] at hj0
                    clear HR HSc hr3
                    by_cases hjm : j0 < m
                    · obtain ⟨bv, ov, sv, rfl, _, _⟩ := hgr j0 hjm
                      rw [pt_in hjm] at hpp
                      subst hpp
                      have hjm' : (j0 : Int) < (m : Int) := by omega
                      clear hgr
                      go_wp2_with fail
                      refine (name_any nm _ _).mono ?_
                      rintro e w6 ⟨rfl, rfl⟩
                      go_wp2_with fail
                      refine (value_any nm _ _).mono ?_
                      rintro e w6 ⟨rfl, rfl⟩
                      go_wp2_with fail
                      go_ret
                      exact ⟨rfl, below3 hB5⟩
                    · rw [pt_out hjm] at hpp
                      subst hpp
                      have hjm' : ¬ (j0 : Int) < (m : Int) := by omega
                      clear hgr
                      go_wp2_with fail
                      refine (name_any nm _ _).mono ?_
                      rintro e w6 ⟨rfl, rfl⟩
                      go_wp2_with fail
                      refine (value_any nm _ _).mono ?_
                      rintro e w6 ⟨rfl, rfl⟩
                      go_wp2_with fail
                      go_ret
                      exact ⟨rfl, below3 hB5⟩
                · obtain ⟨j, rfl⟩ : ∃ j', j = j' + 1 := ⟨j - 1, by omega⟩
                  rw [show (((j + 1 : Nat) : Int) - 1) = (j : Int) from by omega]
                  obtain ⟨b, o, s, rfl, hs, h1, hbl⟩ := hgp5 j (by omega)
                  have hki : (j : Int) < (k : Int) := by omega
                  have HS : Hid (ss[j]? = some s) := hs
                  clear hgp5 hs hgr
                  cases he : (s.toList == q.toList)
                  · have HSc' : Hid (Scan ss q j f) := HSc.out.miss HS.out he
                    go_wp2
                    go_round
                    case rel => exact ⟨j, f, by omega, by go_num, rfl, hf1, hf2, HSc'⟩
                    case measure => simp [intOf]
                  · have HSc' : Hid (Scan ss q j (j : Int)) := Scan.hit HS.out he
                    go_wp2
                    go_round
                    case rel => exact ⟨j, j, by omega, by go_num, rfl, by omega, by omega, HSc'⟩
                    case measure => simp [intOf]

end Go.Proofs.Qxb6604220a
