import Derived.Test.Qxb6604185aCloneNames
import Derived.Maps.OwnSet
namespace Go.Proofs.Qxb6604185a
open Go.RowKit Go.Maps

theorem law : Keyed Try.prog 9 := string_keyed Try.underlying9
theorem zero4 (w : World) : (zeroValue 4).run Try.prog w = .ok (.bool false) w := by kernel_rfl

/-- what the key of a name reads as -/
def keyL (xs : List Int) : Lit := .string (strOfNums xs).data.toList

theorem keyL_inj {xs ys : List Int} (hx : Bytey xs) (hy : Bytey ys) (h : keyL xs = keyL ys) : xs = ys := by
  unfold keyL at h
  injection h with h
  exact strOfNums_inj hx hy (WideShapes.bytes_inj h)

theorem key_of {xs : List Int} (h : xs.length ≤ 1048576) : keyOf Try.prog 9 (.string (strOfNums xs)) = some (keyL xs) :=
  WideMaps.keyOf_string_mk Try.underlying9 (by rw [strOfNums_size]; unfold maxLen; omega)

/-- THE MAP HOLDS JUST THESE NAMES, EACH AT true. -/
def MapIs (D : DataW Unit) (ls : List (List Int)) : Prop := IsMap D ∧ ∀ xs, Bytey xs → D.atKey (keyL xs) (.lit (.bool false)) = .lit (.bool (decide (xs ∈ ls)))

theorem MapIs.empty : MapIs (.map []) [] := ⟨isMap_empty, fun xs _ => by simp [DataW.atKey]⟩

theorem keyL_isKey (xs : List Int) : WideAt.IsKeyLit (keyL xs) := trivial

theorem MapIs.put {D : DataW Unit} {ls : List (List Int)} (h : MapIs D ls) {xs : List Int} (hx : Bytey xs) : MapIs (D.put (keyL xs) (.lit (.bool true))) (ls ++ [xs]) := by
  refine ⟨h.1.put _ _, fun ys hy => ?_⟩
  by_cases e : ys = xs
  · subst e
    rw [atKey_put_same h.1 (keyL_isKey _)]
    simp
  · rw [atKey_put_other (fun e' => e (keyL_inj hy hx e')), h.2 ys hy]
    simp [e]

theorem plainElem_bool_inv {P : Program} {e : TypeId} {H : Type} (he : P.underlying e = some .bool) {v : Value} {z : DataW H × List MemPlace} (h : plainElem P e v = some z) : ∃ x, v = .bool x ∧ z = (.lit (.bool x), []) := by
  unfold plainElem at h
  rw [he] at h
  cases v <;> simp at h
  exact ⟨_, rfl, h.symm⟩

/-- 'm[k]' -/
theorem look {w : World} {M n : Nat} {D : DataW Unit} {ls : List (List Int)} (h : w.ownsMap Try.prog 9 (plainElem Try.prog 4) M n D) (hD : MapIs D ls) {xs : List Int} (hx : Bytey xs) (hl : xs.length ≤ 1048576) :
    (Instr.lookup 35 (.map (some M)) (.string (strOfNums xs)) false).run Try.prog w = .ok (.bool (decide (xs ∈ ls))) w := by
  obtain ⟨v, ps, hrun, hv⟩ := h.lookup law Try.underlying35 (zero4 w) (plainElem_bool Try.underlying4 false) (key_of hl)
  rw [hD.2 xs hx] at hv
  obtain ⟨x, rfl, hx'⟩ := plainElem_bool_inv Try.underlying4 hv
  simp only [Prod.mk.injEq, DataW.lit.injEq, Lit.bool.injEq] at hx'
  rw [hrun, hx'.1]

/-- 'm[k] = true' -/
theorem upd {w : World} {M n : Nat} {D : DataW Unit} {ls : List (List Int)} (h : w.ownsMap Try.prog 9 (plainElem Try.prog 4) M n D) (hD : MapIs D ls) {xs : List Int} (hx : Bytey xs) (hl : xs.length ≤ 1048576) (hn : n < maxLen) :
    ∃ w', (Instr.mapUpdate 35 (.map (some M)) (.string (strOfNums xs)) (.bool true)).run Try.prog w = .ok () w' ∧ (∃ D', w'.ownsMap Try.prog 9 (plainElem Try.prog 4) M (n + 1) D' ∧ MapIs D' (ls ++ [xs])) ∧ w.grownBy w' (some M) := by
  obtain ⟨w', h1, h2, h3⟩ := h.update law Try.underlying35 hn (key_of hl) (plainElem_bool Try.underlying4 true)
  exact ⟨w', h1, ⟨_, h2, hD.put hx⟩, h3⟩

/-- the struct's cells -/
def setCells (F : List Value) (n : Int) (m : Option Nat) : Array Value := (F ++ [Value.int .i64 n, Value.map m]).toArray

structure SetFew (w0 w : World) (ls : List (List Int)) : Prop where
  below : Below w0.heap.size w0 w
  good : ∀ xs ∈ ls, Bytey xs ∧ xs.length ≤ 1048576
  le : ls.length ≤ 8
  cells : ∃ F : List Value, F.length = 8 ∧ w.heap[w0.heap.size]? = some (.cells (setCells F ls.length none) 37 (0, 0)) ∧ ∀ (i : Nat) xs, ls[i]? = some xs → ∃ q c, F[i]? = some (.slice q xs.length c) ∧ BytesAt w0 q xs

theorem SetFew.drewN {w0 w : World} {ls : List (List Int)} (h : SetFew w0 w ls) (n : Nat) : SetFew w0 (w.drewN n) ls :=
  ⟨below_drewN h.below n, h.good, h.le, h.cells⟩

structure SetMany (w0 w : World) (b : Nat) (ls : List (List Int)) : Prop where
  below : Below w0.heap.size w0 w
  cells : ∃ (F : List Value) (M : Nat), F.length = 8 ∧ w0.heap.size < M ∧ w.heap[w0.heap.size]? = some (.cells (setCells F 8 (some M)) 37 (0, 0)) ∧ ∃ n D, n ≤ b ∧ w.ownsMap Try.prog 9 (plainElem Try.prog 4) M n D ∧ MapIs D ls

set_option maxHeartbeats 400000 in
theorem add_many (w0 w : World) (b : Nat) (ls : List (List Int)) (p : Option Addr) (xs : List Int) (c : Nat) (h : SetMany w0 w b ls) (hp : BytesAt w0 p xs) (hx : Bytey xs) (hl : xs.length ≤ 1048576) (hb : b < maxLen) :
    Calls Try.prog 20 #[.pointer (some ⟨w0.heap.size, 0, none⟩), .slice p xs.length c] w fun e w' => e = .returned (.bool !(decide (xs ∈ ls))) ∧ ∃ ls', SetMany w0 w' (b + 1) ls' ∧ ∀ ys, ys ∈ ls' ↔ (ys ∈ ls ∨ ys = xs) := by
  obtain ⟨F, M, hF, hM, hblk, n, D, hn, hown, hD⟩ := h.cells
  have hbelow := h.below
  have c9 : w.cell? ⟨w0.heap.size, 9, none⟩ = some (.map (some M)) := by
    rw [cell_block hblk]; simp [setCells, hF]
  have qm : ∀ (w : World) (r : Option Nat), (binOp .eql 35 (.map r) (.map none)).run Try.prog w = .ok (.bool r.isNone) w := fun w r => run_eql_map_nil w _ _ _ r Try.underlying35
  have hcv := fun n => (BytesAt.convert (w := w.drewN n) (hp.kept (below_drewN hbelow n)) c)
  have hlk := fun n => look (w := w.drewN n) hown hD hx hl
  by_cases hin : xs ∈ ls
  · have hlk' : ∀ n, (Instr.lookup 35 (.map (some M)) (.string (strOfNums xs)) false).run Try.prog (w.drewN n) = .ok (.bool true) (w.drewN n) := fun n => by have := hlk n; simpa [hin] using this
    clear hlk
    go_enter Try.func20, Try.ntmps20
    go_wp2
    go_quiet (fail)
    go_wp2
    go_ret
    refine ⟨by simp [hin], ls, ⟨below_drewN hbelow _, F, M, hF, hM, hblk, n, D, by omega, hown, hD⟩, fun ys => ⟨fun h => .inl h, fun h => ?_⟩⟩
    rcases h with h | rfl
    · exact h
    · exact hin
  · have hlk' : ∀ n, (Instr.lookup 35 (.map (some M)) (.string (strOfNums xs)) false).run Try.prog (w.drewN n) = .ok (.bool false) (w.drewN n) := fun n => by have := hlk n; simpa [hin] using this
    clear hlk
    go_enter Try.func20, Try.ntmps20
    go_wp2
    go_quiet (fail)
    go_wp2
    obtain ⟨w1, hup, ⟨D', hown', hD'⟩, hgr⟩ := upd (w := w.drewN (nq + 1)) hown hD hx hl (by omega)
    go_region
    go_wp2
    go_ret
    refine ⟨by simp [hin], ls ++ [xs], ?_, fun ys => by simp⟩
    have hlt := size_of_block hblk
    refine ⟨(below_drewN hbelow (nq + 1)).grown hgr (Nat.le_of_lt hlt) (fun k hk => by cases hk; omega), F, M, hF, hM, ?_, n + 1, D', by omega, hown', hD'⟩
    exact (hgr.block _ hlt (by simp; omega)).trans hblk

theorem few_cell {w : World} {S : Nat} {F : List Value} {n : Int} {m : Option Nat} (hF : F.length = 8) (h : w.heap[S]? = some (.cells (setCells F n m) 37 (0, 0))) {i : Nat} (hi : i < 8) : w.cell? ⟨S, i, none⟩ = F[i]? := by
  rw [cell_block h]
  simp [setCells, List.getElem?_append_left, hF, hi]
theorem n_cell {w : World} {S : Nat} {F : List Value} {n : Int} {m : Option Nat} (hF : F.length = 8) (h : w.heap[S]? = some (.cells (setCells F n m) 37 (0, 0))) : w.cell? ⟨S, 8, none⟩ = some (.int .i64 n) := by
  rw [cell_block h]
  simp [setCells, hF]
theorem m_cell {w : World} {S : Nat} {F : List Value} {n : Int} {m : Option Nat} (hF : F.length = 8) (h : w.heap[S]? = some (.cells (setCells F n m) 37 (0, 0))) : w.cell? ⟨S, 9, none⟩ = some (.map m) := by
  rw [cell_block h]
  simp [setCells, hF]

/-- 'set.few[:n]' -/
theorem run_few (w : World) (a : Addr) (L : Nat) (h : L ≤ 8) : (Instr.sliceAt 34 (.pointer (some a)) none (some (.int .i64 (L : Int))) none).run Try.prog w = .ok (.slice (some a) L 8) w := by
  have e : a.add 0 = a := by simp [Addr.add]
  simp [Instr.sliceAt, run_underlying Try.underlying34, Instr.sliceBounds, Instr.sliceBound, asIntOf, Instr.sureAddr, h, e, Result.andThen]

set_option maxHeartbeats 400000 in
theorem add_few_in (w0 w : World) (ls : List (List Int)) (p : Option Addr) (xs : List Int) (c : Nat) (h : SetFew w0 w ls) (hp : BytesAt w0 p xs) (hx : Bytey xs) (hin : xs ∈ ls) :
    Calls Try.prog 20 #[.pointer (some ⟨w0.heap.size, 0, none⟩), .slice p xs.length c] w fun e w' => e = .returned (.bool false) ∧ SetFew w0 w' ls := by
  obtain ⟨F, hF, hblk, hf⟩ := h.cells
  have hbelow := h.below
  have hgood := h.good
  have hle := h.le
  have c8 := n_cell hF hblk
  have c9 := m_cell hF hblk
  have cf : ∀ (i : Nat) ys, ls[i]? = some ys → ∃ q d, w.cell? ⟨w0.heap.size, i, none⟩ = some (.slice q ys.length d) ∧ BytesAt w0 q ys := fun i ys hi => by
    obtain ⟨q, d, h1, h2⟩ := hf i ys hi
    have := (List.getElem?_eq_some_iff.1 hi).1
    exact ⟨q, d, by rw [few_cell hF hblk (by omega)]; exact h1, h2⟩
  have qm : ∀ (w : World) (r : Option Nat), (binOp .eql 35 (.map r) (.map none)).run Try.prog w = .ok (.bool r.isNone) w := fun w r => run_eql_map_nil w _ _ _ r Try.underlying35
  have hpw := hp.kept hbelow
  obtain ⟨j0, hj0⟩ := List.getElem?_of_mem hin
  have hj0l : j0 < ls.length := (List.getElem?_eq_some_iff.1 hj0).1
  have HJ : Hid (ls[j0]? = some xs) := hj0
  have HSF : Hid (SetFew w0 w ls) := h
  clear hj0 hf hblk hF h
  generalize hL : ls.length = L at *
  have HL : Hid (ls.length = L) := hL
  clear hL
  have hsl := fun w => run_few w ⟨w0.heap.size, 0, none⟩ L hle
  go_enter Try.func20, Try.ntmps20
  go_wp2
  go_quiet (fail)
  go_wp2
  go_loop [23] (fun i => ∃ k : Nat, k ≤ j0 ∧ i = .int .i64 k) (fun i => L - (intOf i).toNat)
  case atStart => exact ⟨0, Nat.zero_le _, rfl⟩
  case round =>
    obtain ⟨k, hk, rfl⟩ := hrel
    obtain ⟨ys, hy⟩ : ∃ ys, ls[k]? = some ys := ⟨_, List.getElem?_eq_getElem (by rw [HL.out]; omega)⟩
    obtain ⟨q, d, h1, h2⟩ := cf k ys hy
    have hg := hgood ys (List.mem_of_getElem? hy)
    have h2w := h2.kept hbelow
    have hki : (k : Int) < (L : Int) := by omega
    have HY : Hid (ls[k]? = some ys) := hy
    clear hy cf hgood
    cases he : (ys == xs)
    · go_wp2_with fail
      refine (Equal_any q p ys xs d c (w.drewN nq) h2w hpw hg.1 hx).mono ?_
      rintro e w1 ⟨rfl, rfl⟩
      rw [he]
      have hne : k ≠ j0 := by
        rintro rfl
        rw [HJ.out] at HY
        obtain rfl := Option.some.inj HY.out
        simp at he
      clear he
      go_wp2
      go_round
      case rel => exact ⟨k + 1, by omega, by go_num⟩
      case measure => simp [intOf]; omega
    · go_wp2_with fail
      refine (Equal_any q p ys xs d c (w.drewN nq) h2w hpw hg.1 hx).mono ?_
      rintro e w1 ⟨rfl, rfl⟩
      rw [he]
      clear he
      go_wp2
      go_ret
      exact ⟨rfl, HSF.out.drewN nq⟩

theorem few_put {w0 w : World} {ls : List (List Int)} {p : Option Addr} {xs : List Int} {c : Nat} (h : SetFew w0 w ls) (hp : BytesAt w0 p xs) (hx : Bytey xs) (hl : xs.length ≤ 1048576) (hlt : ls.length < 8) :
    SetFew w0 ((w.setCell ⟨w0.heap.size, ls.length, none⟩ (.slice p xs.length c)).setCell ⟨w0.heap.size, 8, none⟩ (.int .i64 ((ls.length : Int) + 1))) (ls ++ [xs]) := by
  obtain ⟨F, hF, hblk, hf⟩ := h.cells
  refine ⟨(h.below.setCell (Nat.le_refl _) _).setCell (Nat.le_refl _) _, ?_, by simp; omega, F.set ls.length (.slice p xs.length c), by simpa using hF, ?_, ?_⟩
  · intro ys hy
    rcases List.mem_append.1 hy with hy | hy
    · exact h.good ys hy
    · simp at hy; subst hy; exact ⟨hx, hl⟩
  · rw [block_setCell (block_setCell hblk _)]
    congr 2
    simp only [setCells]
    rw [← Array.toList_inj]
    simp only [Array.toList_setIfInBounds, List.length_append, List.length_singleton]
    rw [List.set_append_left _ _ (by omega), List.set_append_right _ _ (by simp; omega)]
    simp [hF]
  · intro i ys hi
    by_cases e : i < ls.length
    · rw [List.getElem?_append_left e] at hi
      obtain ⟨q, d, h1, h2⟩ := hf i ys hi
      exact ⟨q, d, by rw [List.getElem?_set_ne (by omega)]; exact h1, h2⟩
    · have hi' := (List.getElem?_eq_some_iff.1 hi).1
      simp at hi'
      obtain rfl : i = ls.length := by omega
      simp at hi
      subst hi
      exact ⟨p, c, by rw [List.getElem?_set_self (by omega)], hp⟩

set_option maxHeartbeats 1000000 in
theorem add_few_new (w0 w : World) (ls : List (List Int)) (p : Option Addr) (xs : List Int) (c : Nat) (h : SetFew w0 w ls) (hp : BytesAt w0 p xs) (hx : Bytey xs) (hl : xs.length ≤ 1048576) (hin : xs ∉ ls) (hlt8 : ls.length < 8) :
    Calls Try.prog 20 #[.pointer (some ⟨w0.heap.size, 0, none⟩), .slice p xs.length c] w fun e w' => e = .returned (.bool true) ∧ SetFew w0 w' (ls ++ [xs]) := by
  have hput := fun n => few_put (c := c) (h.drewN n) hp hx hl hlt8
  obtain ⟨F, hF, hblk, hf⟩ := h.cells
  have hbelow := h.below
  have hgood := h.good
  have hle := h.le
  have c8 := n_cell hF hblk
  have c9 := m_cell hF hblk
  have cf : ∀ (i : Nat) ys, ls[i]? = some ys → ∃ q d, w.cell? ⟨w0.heap.size, i, none⟩ = some (.slice q ys.length d) ∧ BytesAt w0 q ys := fun i ys hi => by
    obtain ⟨q, d, h1, h2⟩ := hf i ys hi
    have := (List.getElem?_eq_some_iff.1 hi).1
    exact ⟨q, d, by rw [few_cell hF hblk (by omega)]; exact h1, h2⟩
  have cL : ∃ v, w.cell? ⟨w0.heap.size, ls.length, none⟩ = some v := ⟨_, (few_cell hF hblk (by omega)).trans (List.getElem?_eq_getElem (by omega))⟩
  obtain ⟨vL, cL⟩ := cL
  have fz : ∀ i, w.frozen? ⟨w0.heap.size, i, none⟩ = false := fun i => frozen_block hblk
  have qm : ∀ (w : World) (r : Option Nat), (binOp .eql 35 (.map r) (.map none)).run Try.prog w = .ok (.bool r.isNone) w := fun w r => run_eql_map_nil w _ _ _ r Try.underlying35
  have hpw := hp.kept hbelow
  have hne : ∀ (k : Nat) (ys : List Int), ls[k]? = some ys → (ys == xs) = false := fun k ys hk => by
    rw [beq_eq_false_iff_ne]; rintro rfl; exact hin (List.mem_of_getElem? hk)
  clear hf hblk hF h hin
  generalize hL : ls.length = L at *
  have HL : Hid (ls.length = L) := hL
  clear hL
  have hsl := fun w => run_few w ⟨w0.heap.size, 0, none⟩ L hle
  go_enter Try.func20, Try.ntmps20
  go_wp2
  go_quiet (fail)
  go_wp2
  go_loop [23] (fun i => ∃ k : Nat, k ≤ L ∧ i = .int .i64 k) (fun i => L - (intOf i).toNat)
  case atStart => exact ⟨0, Nat.zero_le _, rfl⟩
  case round =>
    obtain ⟨k, hk, rfl⟩ := hrel
    by_cases hkl : k < L
    · obtain ⟨ys, hy⟩ : ∃ ys, ls[k]? = some ys := ⟨_, List.getElem?_eq_getElem (by rw [HL.out]; omega)⟩
      obtain ⟨q, d, h1, h2⟩ := cf k ys hy
      have hg := hgood ys (List.mem_of_getElem? hy)
      have h2w := h2.kept hbelow
      have hki : (k : Int) < (L : Int) := by omega
      have he := hne k ys hy
      clear hy cf hgood hne hput
      go_wp2_with fail
      refine (Equal_any q p ys xs d c (w.drewN nq) h2w hpw hg.1 hx).mono ?_
      rintro e w1 ⟨rfl, rfl⟩
      rw [he]
      clear he
      go_wp2
      go_round
      case rel => exact ⟨k + 1, by omega, by go_num⟩
      case measure => simp [intOf]; omega
    · obtain rfl : k = L := by omega
      clear cf hgood hne hpw
      have hki : (k : Int) < 8 := by omega
      have hk8 : ¬ k = 8 := by omega
      have hput' := hput (nq + 1)
      clear hput
      go_wp2
      go_region
      go_wp2
      go_ret
      refine ⟨rfl, ?_⟩
      exact hput'

end Go.Proofs.Qxb6604185a
