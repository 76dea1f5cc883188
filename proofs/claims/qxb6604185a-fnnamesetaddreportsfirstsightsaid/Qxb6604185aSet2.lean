import Derived.Test.Qxb6604185aSet
namespace Go.Proofs.Qxb6604185a
open Go.RowKit Go.Maps

/-! ### the array is full: the map is made, and the eight go in -/
theorem run_loadVar_cells {P : Program} (w : World) (a : Addr) (ty : TypeId) (cs : Array Value) (d : TypeDesc) (hc : ∀ j v, cs[j]? = some v → w.cell? (a.add j) = some v)
    (hu : P.underlying ty = some d) (hd : (match d with | .struct _ | .array _ _ => true | _ => false) = true) (hi : (P.info? ty).map (·.size) = some cs.size) :
    (loadVar ty a).run P w = .ok (.agg cs) w := by
  have hl : (loadCells a cs.toList.length).run P w = .ok cs.toList.toArray w :=
    run_loadCells_list (P := P) w a cs.toList (fun j v hv => hc j v (by simpa using hv))
  cases hq : P.info? ty with
  | none => simp [hq] at hi
  | some i =>
    have hs : i.size = cs.size := by simpa [hq] using hi
    have hagg : (isAgg ty).run P w = .ok true w := by
      unfold isAgg
      rw [Sem.run_bind, run_underlying hu w]
      cases d <;> simp_all
    simp only [Array.length_toList, Array.toArray_toList] at hl
    simp [loadVar, Sem.run_bind, hagg, sizeOf, typeInfo, hq, hs, hl]

theorem wpList_load_cells {P : Program} {ops : Array Oper} {rest : List Oper} {o : Oper} {a : Act} {w : World} {Q : Exit → Act → World → Prop} (hgd : o.guard = none) (ty : TypeId) (x : Operand) (ho : o.op = .load ty x)
    (ad : Addr) (hx : a.eval x = .pointer (some ad)) (cs : Array Value) (d : TypeDesc) (hc : ∀ j v, cs[j]? = some v → w.cell? (ad.add j) = some v)
    (hu : P.underlying ty = some d) (hd : (match d with | .struct _ | .array _ _ => true | _ => false) = true) (hi : (P.info? ty).map (·.size) = some cs.size)
    (h : wpList P ops Q rest (a.put o.dst (.agg cs)) w) : wpList P ops Q (o :: rest) a w := by
  refine wpList_plain hgd fun K hK => ?_
  unfold Oper.wp execOp
  simp only [ho, hx, Instr.loadAt, Instr.sureAddr, Sem.run_bind, Sem.run_pure, Result.andThen_ok, run_loadVar_cells w ad ty cs d hc hu hd hi]
  exact hK _ _ h

/-- 'range set.few': element k -/
theorem run_index_few (w : World) (F : List Value) (k : Nat) (q : Option Addr) (n c : Nat) (hk : k < 8) (h : F[k]? = some (.slice q n c)) :
    (Instr.index 34 (.agg F.toArray) (.int .i64 (k : Int))).run Try.prog w = .ok (.slice q n c) w := by
  have hs : ∀ w, (sizeOf 22).run Try.prog w = .ok 1 w := fun w => by kernel_rfl
  have ha : ∀ w, (isAgg 22).run Try.prog w = .ok false w := fun w => by kernel_rfl
  simp [Instr.index, asIntOf, run_underlying Try.underlying34, hs, part, ha, h, hk]

theorem info34 : ∃ a, Try.prog.info? 34 = some a ∧ a.size = 8 := by
  have h : (Try.prog.info? 34).map (·.size) = some 8 := by kernel_rfl
  obtain ⟨a, h1, h2⟩ := Option.map_eq_some_iff.1 h
  exact ⟨a, h1, h2⟩

structure ManyAt (w0 w : World) (F : List Value) (M b : Nat) (ls : List (List Int)) : Prop where
  below : Below w0.heap.size w0 w
  hM : w0.heap.size < M
  blk : w.heap[w0.heap.size]? = some (.cells (setCells F 8 (some M)) 37 (0, 0))
  map : ∃ n D, n ≤ b ∧ w.ownsMap Try.prog 9 (plainElem Try.prog 4) M n D ∧ MapIs D ls

theorem ManyAt.start {w0 w : World} {F : List Value} (hF : F.length = 8) (hb : Below w0.heap.size w0 w) (hblk : w.heap[w0.heap.size]? = some (.cells (setCells F 8 none) 37 (0, 0))) (n : Nat) :
    ManyAt w0 (((w.setCell ⟨w0.heap.size, 9, none⟩ (.map (some w.heap.size))).alloc (.map #[] 0)).drewN n) F w.heap.size 0 [] := by
  have hlt := size_of_block hblk
  have e : (w.setCell ⟨w0.heap.size, 9, none⟩ (.map (some w.heap.size))).heap.size = w.heap.size := by simp [World.setCell]
  refine ⟨below_drewN ((hb.setCell (Nat.le_refl _) _).alloc (by rw [e]; omega) _) n, hlt, ?_, 0, .map [], Nat.le_refl _, ?_, MapIs.empty⟩
  · show ((w.setCell ⟨w0.heap.size, 9, none⟩ (.map (some w.heap.size))).alloc (.map #[] 0)).heap[w0.heap.size]? = _
    rw [Below.heap_alloc _ _ _ (by rw [e]; exact hlt), block_setCell hblk]
    congr 2
    simp only [setCells]
    rw [← Array.toList_inj]
    simp only [Array.toList_setIfInBounds]
    rw [List.set_append_right _ _ (by omega)]
    simp [hF]
  · have := World.ownsMap_made (H := Unit) (w.setCell ⟨w0.heap.size, 9, none⟩ (.map (some w.heap.size))) Try.prog 9 (plainElem Try.prog 4)
    rw [e] at this
    exact this

theorem ManyAt.put {w0 w w1 : World} {F : List Value} {M b n : Nat} {ls : List (List Int)} (h : ManyAt w0 w F M b ls) (j : Nat) {xs : List Int} {D : DataW Unit} (hn : n ≤ b + 1) (hg : (w.drewN j).grownBy w1 (some M)) (ho : w1.ownsMap Try.prog 9 (plainElem Try.prog 4) M n D) (hD : MapIs D (ls ++ [xs])) :
    ManyAt w0 w1 F M (b + 1) (ls ++ [xs]) := by
  have hlt := size_of_block h.blk
  refine ⟨(below_drewN h.below j).grown hg (Nat.le_of_lt hlt) (fun k hk => by cases hk; exact Nat.le_of_lt h.hM), h.hM, ?_, n, D, hn, ho, hD⟩
  exact (hg.block _ hlt (by have := h.hM; simp; omega)).trans h.blk

set_option maxHeartbeats 1000000 in
theorem add_few_full (w0 w : World) (ls : List (List Int)) (p : Option Addr) (xs : List Int) (c : Nat) (h : SetFew w0 w ls) (hp : BytesAt w0 p xs) (hx : Bytey xs) (hl : xs.length ≤ 1048576) (hin : xs ∉ ls) (h8 : ls.length = 8) :
    Calls Try.prog 20 #[.pointer (some ⟨w0.heap.size, 0, none⟩), .slice p xs.length c] w fun e w' => e = .returned (.bool true) ∧ SetMany w0 w' 9 (ls ++ [xs]) := by
  obtain ⟨F, hF, hblk, hf⟩ := h.cells
  have hbelow := h.below
  have hgood := h.good
  replace hblk : w.heap[w0.heap.size]? = some (.cells (setCells F 8 none) 37 (0, 0)) := by rw [hblk, h8]; rfl
  have c8 := n_cell hF hblk
  have c9 := m_cell hF hblk
  have cf : ∀ (i : Nat) ys, ls[i]? = some ys → ∃ q d, w.cell? ⟨w0.heap.size, i, none⟩ = some (.slice q ys.length d) ∧ BytesAt w0 q ys := fun i ys hi => by
    obtain ⟨q, d, h1, h2⟩ := hf i ys hi
    have := (List.getElem?_eq_some_iff.1 hi).1
    exact ⟨q, d, by rw [few_cell hF hblk (by omega)]; exact h1, h2⟩
  have fz : ∀ i, w.frozen? ⟨w0.heap.size, i, none⟩ = false := fun i => frozen_block hblk
  have hSz := size_of_block hblk
  have qm : ∀ (w : World) (r : Option Nat), (binOp .eql 35 (.map r) (.map none)).run Try.prog w = .ok (.bool r.isNone) w := fun w r => run_eql_map_nil w _ _ _ r Try.underlying35
  have hpw := hp.kept hbelow
  have hne : ∀ (k : Nat) (ys : List Int), ls[k]? = some ys → (ys == xs) = false := fun k ys hk => by
    rw [beq_eq_false_iff_ne]; rintro rfl; exact hin (List.mem_of_getElem? hk)
  have hmm := @run_makeMap Try.prog
  have ad : ∀ (W : World) (j : Nat) (o : Obj), (W.drewN j).alloc o = (W.alloc o).drewN j := fun _ _ _ => rfl
  have sd : ∀ (W : World) (j : Nat) (x : Addr) (v : Value), (W.drewN j).setCell x v = (W.setCell x v).drewN j := fun _ _ _ _ => rfl
  have HIN : Hid (xs ∉ ls) := hin
  have HL : Hid (ls.length = 8) := h8
  have HBLK : Hid (w.heap[w0.heap.size]? = some (.cells (setCells F 8 none) 37 (0, 0))) := hblk
  clear h hin h8 hblk
  have hsl : ∀ w, (Instr.sliceAt 34 (.pointer (some ⟨w0.heap.size, 0, none⟩)) none (some (.int .i64 8)) none).run Try.prog w = .ok (.slice (some ⟨w0.heap.size, 0, none⟩) 8 8) w := fun w => run_few w ⟨w0.heap.size, 0, none⟩ 8 (Nat.le_refl _)
  go_enter Try.func20, Try.ntmps20
  go_wp2
  go_quiet (fail)
  go_wp2
  go_loop [23] (fun i => ∃ k : Nat, k ≤ 8 ∧ i = .int .i64 k) (fun i => 8 - (intOf i).toNat)
  case atStart => exact ⟨0, Nat.zero_le _, rfl⟩
  case round =>
    obtain ⟨k, hk, rfl⟩ := hrel
    by_cases hkl : k < 8
    · obtain ⟨ys, hy⟩ : ∃ ys, ls[k]? = some ys := ⟨_, List.getElem?_eq_getElem (by rw [HL.out]; omega)⟩
      obtain ⟨q, d, h1, h2⟩ := cf k ys hy
      have hg := hgood ys (List.mem_of_getElem? hy)
      have h2w := h2.kept hbelow
      have hki : (k : Int) < 8 := by omega
      have he := hne k ys hy
      clear hy cf hgood hne hmm
      go_wp2_with fail
      refine (Equal_any q p ys xs d c (w.drewN nq) h2w hpw hg.1 hx).mono ?_
      rintro e w1 ⟨rfl, rfl⟩
      rw [he]
      clear he
      go_wp2
      go_round
      case rel => exact ⟨k + 1, by omega, by go_num⟩
      case measure => simp [intOf]; omega
    · obtain rfl : k = 8 := by omega
      clear cf hne hpw
      have hst := fun n => ManyAt.start hF hbelow HBLK.out n
      have hfc : ∀ (j : Nat) (v : Value), F[j]? = some v → (w.setCell ⟨w0.heap.size, 9, none⟩ (.map (some w.heap.size))).cell? ⟨w0.heap.size, j, none⟩ = some v := fun j v hv => by
        have hj := (List.getElem?_eq_some_iff.1 hv).1
        rw [cell_block (block_setCell HBLK.out _), Array.getElem?_setIfInBounds_ne (by omega), ← cell_block HBLK.out, few_cell hF HBLK.out (by omega)]
        exact hv
      go_wp2_with (refine wpList_load_cells rfl 34 _ rfl ⟨w0.heap.size, 0, none⟩ rfl F.toArray _ ?hc Try.underlying34 rfl ?hi ?_)
      case hc => exact hfc
      case hi => exact info34
      clear hfc
      go_loopw [60] (fun i wr => ∃ k : Nat, k ≤ 8 ∧ i = .int .i64 k ∧ ManyAt w0 wr F w.heap.size k (ls.take k)) (fun i _ => 8 - (intOf i).toNat)
      case atStart => exact ⟨0, Nat.zero_le _, rfl, hst nq⟩
      case round =>
        clear hst c8 c9 fz hsl hmm ad sd
        obtain ⟨k, hk, rfl, hM⟩ := hrel
        obtain ⟨n, D, hn, hown, hD⟩ := hM.map
        have c9r := m_cell hF hM.blk
        by_cases hlt : k < 8
        · obtain ⟨ys, hy⟩ : ∃ ys, ls[k]? = some ys := ⟨_, List.getElem?_eq_getElem (by rw [HL.out]; omega)⟩
          obtain ⟨q, d, h1, h2⟩ := hf k ys hy
          have hg := hgood ys (List.mem_of_getElem? hy)
          have hix := fun w => run_index_few w F k q ys.length d hlt h1
          have hcv := BytesAt.convert (w := wr.drew) (h2.kept (hM.below.drew)) d
          obtain ⟨w1, hup, ⟨D', hown', hD'⟩, hgr⟩ := upd (w := wr.drew) hown hD hg.1 hg.2 (by unfold maxLen; omega)
          have hput := hM.put 1 (n := n + 1) (by omega) hgr hown' hD'
          have HT : Hid (ls.take k ++ [ys] = ls.take (k + 1)) := by
            rw [List.take_add_one, hy]; rfl
          have HP : Hid (ManyAt w0 w1 F w.heap.size (k + 1) (ls.take k ++ [ys])) := hput
          have hki : (k : Int) < 8 := by omega
          clear hput hy hgood hf h1 h2 hg hown' hD' hgr hown hD
          go_wp2
          go_region
          go_wp2
          go_roundw
          case rel => exact ⟨k + 1, by omega, by go_num, HT.out ▸ HP.out⟩
          case measure => simp [intOf]; omega
        · obtain rfl : k = 8 := by omega
          have HT : Hid (ls.take 8 = ls) := by rw [show (8 : Nat) = ls.length from HL.out.symm]; exact List.take_length
          rw [HT.out] at hM hD
          have hcv := fun n => BytesAt.convert (w := wr.drewN n) (hp.kept (below_drewN hM.below n)) c
          have hlk : ∀ n, (Instr.lookup 35 (.map (some w.heap.size)) (.string (strOfNums xs)) false).run Try.prog (wr.drewN n) = .ok (.bool false) (wr.drewN n) := fun n => by
            have := look (w := wr.drewN n) hown hD hx hl
            simpa [HIN.out] using this
          clear hgood hf
          go_wp2
          go_quiet (fail)
          go_wp2
          obtain ⟨w1, hup, ⟨D', hown', hD'⟩, hgr⟩ := upd (w := wr.drewN (nq + 1)) hown hD hx hl (by unfold maxLen; omega)
          have hput := hM.put (nq + 1) (n := n + 1) (by omega) hgr hown' hD'
          clear hown' hD' hgr
          go_region
          go_wp2
          go_ret
          exact ⟨rfl, hput.below, F, w.heap.size, hF, hput.hM, hput.blk, hput.map⟩
end Go.Proofs.Qxb6604185a
