import Derived.Test.Qxb6604185aBytes
namespace Go.Proofs.Qxb6604185a
open Go.RowKit

theorem Try.info5 : (Try.prog.info? 5).map (fun i => (i.zero, i.size, i.bytes)) = some (some (.int .u8 0), 1, 1) := by kernel_rfl
theorem Try.info22 : (Try.prog.info? 22).map (fun i => (i.zero, i.size, i.bytes)) = some (some (.slice none 0 0), 1, 24) := by kernel_rfl

/-- the first k cells are filled -/
def fillTo (z : Value) (vs : List Value) (k : Nat) : Array Value := (vs.take k ++ List.replicate (vs.length - k) z).toArray

theorem fillTo_size (z : Value) (vs : List Value) (k : Nat) (h : k ≤ vs.length) : (fillTo z vs k).size = vs.length := by
  simp [fillTo]; omega

theorem fillTo_step (z : Value) (vs : List Value) (k : Nat) (v : Value) (hv : vs[k]? = some v) : (fillTo z vs k).setIfInBounds k v = fillTo z vs (k + 1) := by
  obtain ⟨h, rfl⟩ := List.getElem?_eq_some_iff.1 hv
  unfold fillTo
  rw [← Array.toList_inj, Array.toList_setIfInBounds]
  simp only []
  rw [List.take_succ_eq_append_getElem h]
  have e1 : vs.length - k = (vs.length - (k + 1)) + 1 := by omega
  rw [e1, List.replicate_succ, List.set_append_right _ _ (by simp [Nat.min_le_left])]
  have e2 : k - (vs.take k).length = 0 := by simp; omega
  rw [e2, List.set_cons_zero, List.append_assoc]
  rfl

theorem fillTo_end (z : Value) (vs : List Value) : fillTo z vs vs.length = vs.toArray := by simp [fillTo]

theorem made_fill (z : Value) (vs : List Value) : madeCells #[z] vs.length = fillTo z vs 0 := by
  unfold madeCells fillTo
  apply Array.ext
  · simp
  · intro i h1 h2
    simp [Nat.mod_one]

theorem lt_of_cell {w : World} {b o : Nat} {v : Value} (h : w.cell? ⟨b, o, none⟩ = some v) : b < w.heap.size := by
  unfold World.cell? at h
  rcases Nat.lt_or_ge b w.heap.size with h' | h'
  · exact h'
  · simp [Array.getElem?_eq_none h'] at h

set_option maxHeartbeats 400000 in
/-- zzCloneBytes -/
theorem clone_some (a : Addr) (xs : List Int) (c : Nat) (w : World) (hx : BytesAt w (some a) xs) (bl : xs.length ≤ 1099511627776) :
    Calls Try.prog 7 #[.slice (some a) xs.length c] w fun e w' => e = .returned (.slice (some ⟨w.heap.size, 0, none⟩) xs.length xs.length) ∧ w' = w.alloc (.cells (xs.map (Value.int .u8)).toArray 5) := by
  obtain ⟨i0, hi, hz0, hz1, hz2⟩ := info_parts Try.info5
  have q22 : ∀ (w : World) (a : Option Addr) (n c n' c' : Nat), (binOp .eql 22 (.slice a n c) (.slice none n' c')).run Try.prog w = .ok (.bool a.isNone) w := fun w a n c n' c' => Lib.run_eql_slice_nil w _ _ a n c n' c' Try.underlying22
  have hmk := run_make (P := Try.prog) w 22 5 i0 (.int .u8 0) Try.underlying22 hi hz0 .i64 .i64 (xs.length : Int) (xs.length : Int) (by omega) (by omega) (by rw [hz2]; omega) (by omega)
  have hmf := made_fill (.int .u8 0) (xs.map (Value.int .u8))
  simp only [List.length_map] at hmf
  rw [hz1, Nat.mul_one, Int.toNat_natCast, show (Value.int IntKind.u8 0).cells = #[.int .u8 0] from rfl, hmf] at hmk
  have hfe := fillTo_end (.int .u8 0) (xs.map (Value.int .u8))
  have hfs := fillTo_step (.int .u8 0) (xs.map (Value.int .u8))
  have hsz := fillTo_size (.int .u8 0) (xs.map (Value.int .u8))
  simp only [List.length_map] at hfe hsz
  have HFE : Hid (fillTo (.int .u8 0) (xs.map (Value.int .u8)) xs.length = (xs.map (Value.int .u8)).toArray) := hfe
  have HFS : Hid (∀ k, k < xs.length → (fillTo (.int .u8 0) (xs.map (Value.int .u8)) k).setIfInBounds k (.int .u8 (xs.getD k 0)) = fillTo (.int .u8 0) (xs.map (Value.int .u8)) (k + 1)) :=
    fun k hk => hfs k _ (by simp [List.getD, hk])
  clear hfe hfs hmf hz0 hz1 hz2 hi
  generalize hF : fillTo (.int .u8 0) (xs.map (Value.int .u8)) = F at *
  generalize hV : (xs.map (Value.int .u8)).toArray = V at *
  clear hF hV
  rcases hx with rfl | ⟨b, o, ha, hc⟩
  · simp at hmk
    go_enter Try.func7, Try.ntmps7
    go_wp2
    refine wp_loop_rounds 1 ?_
    rw [rounds_succ]
    go_wp2
    go_ret
    refine ⟨rfl, ?_⟩
    rw [← HFE.out]
    rfl
  · obtain rfl : a = ⟨b, o, none⟩ := Option.some.inj ha
    clear ha
    have hbz : 0 < xs.length → b < w.heap.size := fun h => lt_of_cell (hc 0 h)
    generalize hn : xs.length = n at *
    clear hn
    go_enter Try.func7, Try.ntmps7
    go_wp2
    go_loopw [4] (fun i wr => ∃ k : Nat, k ≤ n ∧ i = .int .i64 k ∧ wr = w.alloc (.cells (F k) 5)) (fun i _ => n - (intOf i).toNat)
    case atStart => exact ⟨0, Nat.zero_le _, rfl, rfl⟩
    case round =>
      obtain ⟨k, hk, rfl, rfl⟩ := hrel
      have hsk := hsz k hk
      clear hsz
      by_cases hlt : k < n
      · have h1 := hc k hlt
        have hb := hbz (by omega)
        have hki : (k : Int) < (n : Int) := by omega
        clear hc hbz
        have hs1 := HFS.out k hlt
        have HS1 : Hid ((F k).setIfInBounds k (.int .u8 (xs.getD k 0)) = F (k + 1)) := hs1
        clear hs1
        go_wp2
        go_roundw
        case rel => 
          refine ⟨k + 1, by omega, by go_num, ?_⟩
          rw [← HS1.out, List.getD_eq_getElem?_getD]
        case measure => simp [intOf]; omega
      · go_wp2
        go_ret
        obtain rfl : k = n := by omega
        refine ⟨rfl, ?_⟩
        rw [← HFE.out]

set_option maxHeartbeats 400000 in
theorem clone_nil (w : World) (c : Nat) : Calls Try.prog 7 #[.slice none 0 c] w fun e w' => e = .returned (.slice none 0 0) ∧ w' = w := by
  have q22 : ∀ (w : World) (a : Option Addr) (n c n' c' : Nat), (binOp .eql 22 (.slice a n c) (.slice none n' c')).run Try.prog w = .ok (.bool a.isNone) w := fun w a n c n' c' => Lib.run_eql_slice_nil w _ _ a n c n' c' Try.underlying22
  go_enter Try.func7, Try.ntmps7
  go_wp2
  go_ret
  exact ⟨rfl, rfl⟩

theorem BytesAt.isNil {w : World} {xs : List Int} (h : BytesAt w none xs) : xs = [] := by
  rcases h with rfl | ⟨b, o, h, _⟩
  · rfl
  · cases h

theorem BytesAt.stay {w w' : World} {p : Option Addr} {xs : List Int} (h : BytesAt w p xs) {B : Nat} (hb : Below B w w') (hp : ∀ a, p = some a → xs ≠ [] → a.block < B) : BytesAt w' p xs := by
  by_cases hn : xs = []
  · exact .inl hn
  rcases h with h | ⟨b, o, rfl, hc⟩
  · exact absurd h hn
  · refine .inr ⟨b, o, rfl, fun i hi => ?_⟩
    rw [hb.cell (p := ⟨b, o + i, none⟩) (show b < B from hp ⟨b, o, none⟩ rfl hn)]
    exact hc i hi

theorem BytesAt.lt {w : World} {a : Addr} {xs : List Int} (h : BytesAt w (some a) xs) (hn : xs ≠ []) : a.block < w.heap.size := by
  rcases h with h | ⟨b, o, h, hc⟩
  · exact absurd h hn
  · obtain rfl := Option.some.inj h
    exact lt_of_cell (hc 0 (List.length_pos_iff.2 hn))

theorem BytesAt.kept {w w' : World} {p : Option Addr} {xs : List Int} (h : BytesAt w p xs) (hb : Below w.heap.size w w') : BytesAt w' p xs :=
  h.stay hb (fun a e hn => by subst e; exact h.lt hn)

theorem bytesAt_new (w : World) (xs : List Int) : BytesAt (w.alloc (.cells (xs.map (Value.int .u8)).toArray 5)) (some ⟨w.heap.size, 0, none⟩) xs := by
  refine .inr ⟨_, _, rfl, fun i hi => ?_⟩
  rw [Nat.zero_add, World.cell?_alloc_at _ _ _ _ rfl]
  simp [List.getD, hi]

/-- zzCloneBytes, whatever the slice -/
theorem clone_any (p : Option Addr) (xs : List Int) (c : Nat) (w : World) (hx : BytesAt w p xs) (bl : xs.length ≤ 1099511627776) :
    Calls Try.prog 7 #[.slice p xs.length c] w fun e w' => ∃ p' : Option Addr, e = .returned (.slice p' xs.length xs.length) ∧ p'.isNone = p.isNone ∧ BytesAt w' p' xs ∧ Below w.heap.size w w' ∧ ∀ a, p' = some a → w.heap.size ≤ a.block := by
  cases p with
  | none =>
    obtain rfl := hx.isNil
    refine (clone_nil w c).mono ?_
    rintro e w' ⟨rfl, rfl⟩
    exact ⟨none, rfl, rfl, .inl rfl, Below.refl _ _, fun a h => by cases h⟩
  | some a =>
    refine (clone_some a xs c w hx bl).mono ?_
    rintro e w' ⟨rfl, rfl⟩
    exact ⟨_, rfl, rfl, bytesAt_new w xs, (Below.refl _ _).alloc (Nat.le_refl _) _, fun a h => by cases h; exact Nat.le_refl _⟩

/-- zzSameBytes -/
theorem same_any (p q : Option Addr) (xs ys : List Int) (c d : Nat) (w : World) (hx : BytesAt w p xs) (hy : BytesAt w q ys) (bl : xs.length ≤ 1099511627776) :
    Calls Try.prog 10 #[.slice p xs.length c, .slice q ys.length d] w fun e w' => e = .returned (.bool (p.isNone == q.isNone && xs == ys)) ∧ ∃ n, w' = w.drewN n := by
  have q22 : ∀ (w : World) (a : Option Addr) (n c n' c' : Nat), (binOp .eql 22 (.slice a n c) (.slice none n' c')).run Try.prog w = .ok (.bool a.isNone) w := fun w a n c n' c' => Lib.run_eql_slice_nil w _ _ a n c n' c' Try.underlying22
  cases hp : p.isNone <;> cases hq : q.isNone
  · go_enter Try.func10, Try.ntmps10
    go_wp2_with fail
    refine (zzEq_any p q xs ys c d w hx hy bl).mono ?_
    rintro e w' ⟨rfl, n, rfl⟩
    go_wp2
    go_ret
    exact ⟨by simp, n, rfl⟩
  · go_enter Try.func10, Try.ntmps10
    go_wp2
    go_ret
    exact ⟨rfl, 0, rfl⟩
  · go_enter Try.func10, Try.ntmps10
    go_wp2
    go_ret
    exact ⟨rfl, 0, rfl⟩
  · go_enter Try.func10, Try.ntmps10
    go_wp2_with fail
    refine (zzEq_any p q xs ys c d w hx hy bl).mono ?_
    rintro e w' ⟨rfl, n, rfl⟩
    go_wp2
    go_ret
    exact ⟨by simp, n, rfl⟩
end Go.Proofs.Qxb6604185a
