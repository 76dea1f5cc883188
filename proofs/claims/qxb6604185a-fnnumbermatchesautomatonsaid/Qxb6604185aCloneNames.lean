import Derived.Test.Qxb6604185aNames
namespace Go.Proofs.Qxb6604185a
open Go.RowKit

/-- THE NEW ROW IN THE MIDDLE OF THE LOOP: block N holds n cells; the first k lead to the first k names' bytes, in blocks behind N. -/
structure Mid (w wr : World) (es : List Nm) (k : Nat) : Prop where
  below : Below w.heap.size w wr
  row : ∃ C : Array Value, wr.heap[w.heap.size]? = some (.cells C 22 (0, 0)) ∧ C.size = es.length
  at' : ∀ i e, i < k → es[i]? = some e → ∃ q c, wr.cell? ⟨w.heap.size, i, none⟩ = some (.slice q e.2.length c) ∧ q.isNone = e.1 ∧ BytesAt wr q e.2 ∧ ∀ a, q = some a → w.heap.size < a.block

theorem block_setCell {w : World} {N i : Nat} {C : Array Value} {t : TypeId} (h : w.heap[N]? = some (.cells C t (0, 0))) (v : Value) :
    (w.setCell ⟨N, i, none⟩ v).heap[N]? = some (.cells (C.setIfInBounds i v) t (0, 0)) := by
  simp [World.setCell, Array.getElem?_modify, h]

theorem cell_block {w : World} {N i : Nat} {C : Array Value} {t : TypeId} {f : Nat × Nat} (h : w.heap[N]? = some (.cells C t f)) : w.cell? ⟨N, i, none⟩ = C[i]? := by
  simp [World.cell?, h]

theorem frozen_block {w : World} {N i : Nat} {C : Array Value} {t : TypeId} (h : w.heap[N]? = some (.cells C t (0, 0))) : w.frozen? ⟨N, i, none⟩ = false := by
  simp [World.frozen?, h]

theorem size_of_block {w : World} {N : Nat} {o : Obj} (h : w.heap[N]? = some o) : N < w.heap.size := (Array.getElem?_eq_some_iff.1 h).1

theorem cell_setCell_ne {w : World} {a : Addr} {b o : Nat} {v : Value} (h : b ≠ a.block) : (w.setCell a v).cell? ⟨b, o, none⟩ = w.cell? ⟨b, o, none⟩ :=
  World.cell?_of_block (w := w) (Below.heap_setCell w a v b h)

theorem BytesAt.setCell {w : World} {p : Option Addr} {xs : List Int} (h : BytesAt w p xs) {a : Addr} (v : Value) (hp : ∀ x, p = some x → x.block ≠ a.block) : BytesAt (w.setCell a v) p xs := by
  rcases h with h | ⟨b, o, rfl, hc⟩
  · exact .inl h
  · refine .inr ⟨b, o, rfl, fun i hi => ?_⟩
    rw [cell_setCell_ne (hp _ rfl)]
    exact hc i hi

theorem Mid.start (w : World) (es : List Nm) (C : Array Value) (hC : C.size = es.length) : Mid w (w.alloc (.cells C 22)) es 0 where
  below := (Below.refl _ _).alloc (Nat.le_refl _) _
  row := ⟨C, by show (w.heap.push _)[w.heap.size]? = _; simp, hC⟩
  at' := fun i e hi => by omega

theorem Mid.step {w wr w1 : World} {es : List Nm} {k : Nat} (h : Mid w wr es k) {e : Nm} (he : es[k]? = some e) (hb : Below wr.heap.size wr w1) {q : Option Addr} (hq : q.isNone = e.1) (hB : BytesAt w1 q e.2) (hN : ∀ a, q = some a → wr.heap.size ≤ a.block) :
    Mid w (w1.setCell ⟨w.heap.size, k, none⟩ (.slice q e.2.length e.2.length)) es (k + 1) := by
  obtain ⟨C, hC, hs⟩ := h.row
  have hlt := size_of_block hC
  have hkl : k < es.length := (List.getElem?_eq_some_iff.1 he).1
  have hC1 : w1.heap[w.heap.size]? = some (.cells C 22 (0, 0)) := (hb.block _ hlt).trans hC
  have hC2 := block_setCell (i := k) hC1 (.slice q e.2.length e.2.length)
  refine ⟨?_, ⟨_, hC2, by simpa using hs⟩, ?_⟩
  · exact (h.below.trans (hb.mono (Nat.le_of_lt hlt))).setCell (Nat.le_refl _) _
  · intro i e' hi he'
    rcases Nat.lt_succ_iff_lt_or_eq.1 hi with hi | rfl
    · obtain ⟨q', c', h1, h2, h3, h4⟩ := h.at' i e' hi he'
      refine ⟨q', c', ?_, h2, (h3.kept hb).setCell _ (fun x hx => by have := h4 x hx; simp; omega), h4⟩
      rw [cell_block hC2, Array.getElem?_setIfInBounds_ne (by omega), ← cell_block hC]
      exact h1
    · rw [he] at he'
      cases he'
      refine ⟨q, e.2.length, ?_, hq, hB.setCell _ (fun x hx => by have := hN x hx; simp; omega), fun a ha => by have := hN a ha; omega⟩
      rw [cell_block hC2, Array.getElem?_setIfInBounds_self, if_pos (by omega)]

theorem Mid.names {w wr : World} {es : List Nm} (h : Mid w wr es es.length) : NamesAt wr (some ⟨w.heap.size, 0, none⟩) es := by
  refine .inr ⟨_, _, rfl, fun i e hi => ?_⟩
  obtain ⟨q, c, h1, h2, h3, _⟩ := h.at' i e (List.getElem?_eq_some_iff.1 hi).1 hi
  exact ⟨q, c, by rw [Nat.zero_add]; exact h1, h2, h3⟩

set_option maxHeartbeats 400000 in
/-- zzCloneNames -/
theorem cloneNames_some (a : Addr) (es : List Nm) (c : Nat) (w : World) (hx : NamesAt w (some a) es) (hS : Short es) :
    Calls Try.prog 13 #[.slice (some a) es.length c] w fun e w' => e = .returned (.slice (some ⟨w.heap.size, 0, none⟩) es.length es.length) ∧ Mid w w' es es.length := by
  obtain ⟨i0, hi, hz0, hz1, hz2⟩ := info_parts Try.info22
  have hn := hS.1
  have q30 : ∀ (w : World) (a : Option Addr) (n c n' c' : Nat), (binOp .eql 30 (.slice a n c) (.slice none n' c')).run Try.prog w = .ok (.bool a.isNone) w := fun w a n c n' c' => Lib.run_eql_slice_nil w _ _ a n c n' c' Try.underlying30
  have hmk := run_make (P := Try.prog) w 30 22 i0 (.slice none 0 0) Try.underlying30 hi hz0 .i64 .i64 (es.length : Int) (es.length : Int) (by omega) (by omega) (by rw [hz2]; omega) (by omega)
  rw [hz1, Nat.mul_one, Int.toNat_natCast] at hmk
  have HS := Mid.start w es (madeCells (Value.slice none 0 0).cells es.length) (size_madeCells _ _)
  generalize madeCells (Value.slice none 0 0).cells es.length = C0 at *
  clear hz0 hz1 hz2 hi
  rcases hx with rfl | ⟨b, o, ha, hc⟩
  · simp at hmk
    go_enter Try.func13, Try.ntmps13
    go_wp2
    refine wp_loop_rounds 1 ?_
    rw [rounds_succ]
    go_wp2
    go_ret
    exact ⟨rfl, HS⟩
  · obtain rfl : a = ⟨b, o, none⟩ := Option.some.inj ha
    clear ha
    have hS2 : ∀ (k : Nat) (e : Nm), es[k]? = some e → e.2.length ≤ 1048576 := fun k e h => hS.2 e (List.mem_of_getElem? h)
    have hbl : ∀ (k : Nat) (e : Nm), es[k]? = some e → b < w.heap.size := fun k e h => by obtain ⟨q, c, h1, _⟩ := hc k e h; exact lt_of_cell h1
    generalize hl : es.length = n at *
    have HL : Hid (es.length = n) := hl
    clear hl hS
    go_enter Try.func13, Try.ntmps13
    go_wp2
    go_loopw [4] (fun i wr => ∃ k : Nat, k ≤ n ∧ i = .int .i64 k ∧ Mid w wr es k) (fun i _ => n - (intOf i).toNat)
    case atStart => exact ⟨0, Nat.zero_le _, rfl, HS⟩
    case round =>
      obtain ⟨k, hk, rfl, hM⟩ := hrel
      by_cases hlt : k < n
      · obtain ⟨e, he⟩ : ∃ e, es[k]? = some e := ⟨_, List.getElem?_eq_getElem (by rw [HL.out]; exact hlt)⟩
        obtain ⟨q, cq, h1, h2, h3⟩ := hc k e he
        have hb2 := hS2 k e he
        have h1r : wr.cell? ⟨b, o + k, none⟩ = some (.slice q e.2.length cq) := (hM.below.cell (p := ⟨b, o + k, none⟩) (hbl k e he)).trans h1
        have h3r := h3.kept hM.below
        have hki : (k : Int) < (n : Int) := by omega
        have HE : Hid (es[k]? = some e) := he
        have HQ : Hid (q.isNone = e.1) := h2
        clear hc he hbl hS2 h1 h3 h2 hmk HS
        go_wp2_with fail
        refine (clone_any q e.2 cq wr h3r (by omega)).mono ?_
        rintro e1 w1 ⟨q1, rfl, hq1, hB1, hbel, hnew⟩
        have hstep := hM.step HE.out hbel (hq1.trans HQ.out) hB1 hnew
        obtain ⟨C, hC, hCs⟩ := hM.row
        have hC1 : w1.heap[w.heap.size]? = some (.cells C 22 (0, 0)) := (hbel.block _ (size_of_block hC)).trans hC
        have hcl : ∃ v, w1.cell? ⟨w.heap.size, k, none⟩ = some v := ⟨_, (cell_block hC1).trans (Array.getElem?_eq_getElem (by rw [hCs, HL.out]; exact hlt))⟩
        obtain ⟨v, hv⟩ := hcl
        have hfz := frozen_block (i := k) hC1
        clear hC hC1 hCs h1r h3r hbel hB1 hnew hM HQ HE hq1
        go_wp2
        go_roundw
        case rel => exact ⟨k + 1, by omega, by go_num, hstep⟩
        case measure => simp [intOf]; omega
      · go_wp2
        go_ret
        obtain rfl : k = n := by omega
        exact ⟨rfl, hM⟩

set_option maxHeartbeats 400000 in
theorem cloneNames_nil (w : World) (c : Nat) : Calls Try.prog 13 #[.slice none 0 c] w fun e w' => e = .returned (.slice none 0 0) ∧ w' = w := by
  have q30 : ∀ (w : World) (a : Option Addr) (n c n' c' : Nat), (binOp .eql 30 (.slice a n c) (.slice none n' c')).run Try.prog w = .ok (.bool a.isNone) w := fun w a n c n' c' => Lib.run_eql_slice_nil w _ _ a n c n' c' Try.underlying30
  go_enter Try.func13, Try.ntmps13
  go_wp2
  go_ret
  exact ⟨rfl, rfl⟩

theorem cloneNames_any (p : Option Addr) (es : List Nm) (c : Nat) (w : World) (hx : NamesAt w p es) (hS : Short es) :
    Calls Try.prog 13 #[.slice p es.length c] w fun e w' => ∃ p' : Option Addr, e = .returned (.slice p' es.length es.length) ∧ NamesAt w' p' es ∧ Below w.heap.size w w' := by
  cases p with
  | none =>
    obtain rfl := hx.isNil
    refine (cloneNames_nil w c).mono ?_
    rintro e w' ⟨rfl, rfl⟩
    exact ⟨none, rfl, .inl rfl, Below.refl _ _⟩
  | some a =>
    refine (cloneNames_some a es c w hx hS).mono ?_
    rintro e w' ⟨rfl, hM⟩
    exact ⟨_, rfl, hM.names, hM.below⟩

end Go.Proofs.Qxb6604185a
