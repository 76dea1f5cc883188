import Derived.Test.Qxb6604220aActor
namespace Go.Proofs.Qxb6604220a
open Go.RowKit

/-- THE STRINGS OF A []string -/
def StrsAt (w : World) (p : Option Addr) (ss : List ByteArray) : Prop :=
  ss = [] ∨ ∃ b o, p = some ⟨b, o, none⟩ ∧ ∀ (i : Nat) s, ss[i]? = some s → w.cell? ⟨b, o + i, none⟩ = some (.string s)

theorem StrsAt.isNil {w : World} {ss : List ByteArray} (h : StrsAt w none ss) : ss = [] := by
  rcases h with rfl | ⟨b, o, h, _⟩
  · rfl
  · cases h

theorem StrsAt.kept {w w' : World} {p : Option Addr} {ss : List ByteArray} (h : StrsAt w p ss) (hb : Below w.heap.size w w') : StrsAt w' p ss := by
  rcases h with h | ⟨b, o, e, hc⟩
  · exact .inl h
  · refine .inr ⟨b, o, e, fun i s hi => ?_⟩
    have h1 := hc i s hi
    rw [hb.cell (p := ⟨b, o + i, none⟩) (lt_of_cell h1)]
    exact h1

theorem StrsAt.get {w : World} {p : Option Addr} {ss : List ByteArray} (h : StrsAt w p ss) {k : Nat} (hk : k < ss.length) : ∃ b o s, p = some ⟨b, o, none⟩ ∧ ss[k]? = some s ∧ w.cell? ⟨b, o + k, none⟩ = some (.string s) := by
  rcases h with rfl | ⟨b, o, e, hc⟩
  · simp at hk
  · exact ⟨b, o, _, e, List.getElem?_eq_getElem hk, hc k _ (List.getElem?_eq_getElem hk)⟩

set_option maxHeartbeats 1000000 in
/-- zzBytes_FnLookupFirstMatch -/
theorem bytesF_any (p r : Option Addr) (ss ts : List ByteArray) (c d : Nat) (q : ByteArray) (w : World) (hp : StrsAt w p ss) (hr : StrsAt w r ts) :
    Calls Try.prog 10 #[.slice p ss.length c, .slice r ts.length d, .string q] w fun e w' => Says e (ss.length ≤ 1048576 ∧ ts.length ≤ 1048576 ∧ q.size ≤ 1048576) ∧ w' = w := by
  have hg := fun k (hk : k < ss.length) => hp.get hk
  have hg' := fun k (hk : k < ts.length) => hr.get hk
  clear hp hr
  generalize hl : ss.length = n at *
  have HL : Hid (ss.length = n) := hl
  clear hl
  generalize hl : ts.length = m at *
  have HL' : Hid (ts.length = m) := hl
  clear hl
  go_enter Try.func10, Try.ntmps10
  go_wp2
  · go_ret
    exact ⟨Says.no, rfl⟩
  go_loop [7, 8] (fun s i => ∃ k t : Nat, k ≤ n ∧ i = .int .i64 k ∧ s = .int .i64 t ∧ t ≤ 1048576) (fun _ i => n - (intOf i).toNat)
  case atStart => exact ⟨0, n, by omega, rfl, by simp, by omega⟩
  case round =>
    obtain ⟨k, t, hk, rfl, rfl, ht⟩ := hrel
    by_cases hlt : k < n
    · obtain ⟨b, o, s, rfl, hs, h1⟩ := hg k hlt
      have hki : (k : Int) < (n : Int) := by omega
      clear hg hg' hs
      go_wp2
      · go_ret
        exact ⟨Says.no, rfl⟩
      · go_ret
        exact ⟨Says.no, rfl⟩
      · go_round
        case rel => exact ⟨k + 1, t + s.size, by omega, by go_num, by go_num, by omega⟩
        case measure => simp [intOf]; omega
    · go_wp2
      · go_ret
        exact ⟨Says.no, rfl⟩
      · go_ret
        exact ⟨Says.no, rfl⟩
      go_loop [7, 9] (fun s i => ∃ j t : Nat, j ≤ m ∧ i = .int .i64 j ∧ s = .int .i64 t ∧ t ≤ 1048576) (fun _ i => m - (intOf i).toNat)
      case atStart => exact ⟨0, t + m, by omega, rfl, by go_num, by omega⟩
      case round =>
        obtain ⟨j, t, hj, rfl, rfl, ht⟩ := hrel
        by_cases hlt : j < m
        · obtain ⟨b, o, s, rfl, hs, h1⟩ := hg' j hlt
          have hki : (j : Int) < (m : Int) := by omega
          clear hg hg' hs
          go_wp2
          · go_ret
            exact ⟨Says.no, rfl⟩
          · go_ret
            exact ⟨Says.no, rfl⟩
          · go_round
            case rel => exact ⟨j + 1, t + s.size, by omega, by go_num, by go_num, by omega⟩
            case measure => simp [intOf]; omega
        · clear hg hg'
          go_wp2
          · go_ret
            exact ⟨Says.no, rfl⟩
          · go_ret
            exact ⟨Says.no, rfl⟩
          · go_ret
            exact ⟨Says.yes ⟨by omega, by omega, by omega⟩, rfl⟩

/-- the first k cells are filled -/
def fillTo (z : Value) (vs : List Value) (k : Nat) : Array Value := (vs.take k ++ List.replicate (vs.length - k) z).toArray
theorem fillTo_size (z : Value) (vs : List Value) (k : Nat) (h : k ≤ vs.length) : (fillTo z vs k).size = vs.length := by
  simp [fillTo]; omega
theorem fillTo_step (z : Value) (vs : List Value) (k : Nat) (v : Value) (hv : vs[k]? = some v) : (fillTo z vs k).setIfInBounds k v = fillTo z vs (k + 1) := by
  obtain ⟨h, rfl⟩ := List.getElem?_eq_some_iff.1 hv
  unfold fillTo
  rw [← Array.toList_inj, Array.toList_setIfInBounds]
  simp only []
  rw [List.take_succ_eq_append_getElem h]
  have e1 : vs.length - k = (vs.length - (k + 1)) + 1 := by omega
  rw [e1, List.replicate_succ, List.set_append_right _ _ (by simp [Nat.min_le_left])]
  have e2 : k - (vs.take k).length = 0 := by simp; omega
  rw [e2, List.set_cons_zero, List.append_assoc]
  rfl
theorem fillTo_end (z : Value) (vs : List Value) : fillTo z vs vs.length = vs.toArray := by simp [fillTo]
theorem made_fill (z : Value) (vs : List Value) : madeCells #[z] vs.length = fillTo z vs 0 := by
  unfold madeCells fillTo
  apply Array.ext
  · simp
  · intro i h1 h2
    simp [Nat.mod_one]

theorem Try.info9 : (Try.prog.info? 9).map (fun i => (i.zero, i.size, i.bytes)) = some (some (.string { data := #[] }), 1, 16) := by kernel_rfl

set_option maxHeartbeats 1000000 in
/-- cloneStrs -/
theorem clone_some (a : Addr) (ss : List ByteArray) (c : Nat) (w : World) (hx : StrsAt w (some a) ss) (bl : ss.length ≤ 1048576) :
    Calls Try.prog 11 #[.slice (some a) ss.length c] w fun e w' => e = .returned (.slice (some ⟨w.heap.size, 0, none⟩) ss.length ss.length) ∧ w' = w.alloc (.cells (ss.map Value.string).toArray 9) := by
  obtain ⟨i0, hi, hz0, hz1, hz2⟩ := info_parts Try.info9
  have q35 : ∀ (w : World) (a : Option Addr) (n c n' c' : Nat), (binOp .eql 35 (.slice a n c) (.slice none n' c')).run Try.prog w = .ok (.bool a.isNone) w := fun w a n c n' c' => Lib.run_eql_slice_nil w _ _ a n c n' c' Try.underlying35
  have hmk := run_make (P := Try.prog) w 35 9 i0 (.string { data := #[] }) Try.underlying35 hi hz0 .i64 .i64 (ss.length : Int) (ss.length : Int) (by omega) (by omega) (by rw [hz2]; omega) (by omega)
  have hmf := made_fill (.string { data := #[] }) (ss.map Value.string)
  simp only [List.length_map] at hmf
  rw [hz1, Nat.mul_one, Int.toNat_natCast, show (Value.string { data := #[] }).cells = #[.string { data := #[] }] from rfl, hmf] at hmk
  have hfe := fillTo_end (.string { data := #[] }) (ss.map Value.string)
  have hfs := fillTo_step (.string { data := #[] }) (ss.map Value.string)
  have hsz := fillTo_size (.string { data := #[] }) (ss.map Value.string)
  simp only [List.length_map] at hfe hsz
  have HFE : Hid (fillTo (.string { data := #[] }) (ss.map Value.string) ss.length = (ss.map Value.string).toArray) := hfe
  have HFS : Hid (∀ (k : Nat) (s : ByteArray), ss[k]? = some s → (fillTo (.string { data := #[] }) (ss.map Value.string) k).setIfInBounds k (.string s) = fillTo (.string { data := #[] }) (ss.map Value.string) (k + 1)) :=
    fun k s hk => hfs k _ (by simp [hk])
  clear hfe hfs hmf hz0 hz1 hz2 hi
  generalize hF : fillTo (.string { data := #[] }) (ss.map Value.string) = F at *
  generalize hV : (ss.map Value.string).toArray = V at *
  clear hF hV
  have hg := fun k (hk : k < ss.length) => hx.get hk
  clear hx
  generalize hl : ss.length = n at *
  have HL : Hid (ss.length = n) := hl
  clear hl
  go_enter Try.func11, Try.ntmps11
  go_wp2
  go_loopw [4] (fun i wr => ∃ k : Nat, k ≤ n ∧ i = .int .i64 k ∧ wr = w.alloc (.cells (F k) 9)) (fun i _ => n - (intOf i).toNat)
  case atStart => exact ⟨0, Nat.zero_le _, rfl, rfl⟩
  case round =>
    obtain ⟨k, hk, rfl, rfl⟩ := hrel
    have hsk := hsz k hk
    clear hsz
    by_cases hlt : k < n
    · obtain ⟨b, o, s, ha, hs, h1⟩ := hg k hlt
      obtain rfl : a = ⟨b, o, none⟩ := Option.some.inj ha
      have hb := lt_of_cell h1
      have hki : (k : Int) < (n : Int) := by omega
      have HS1 : Hid ((F k).setIfInBounds k (.string s) = F (k + 1)) := HFS.out k s hs
      clear hg ha hs
      go_wp2
      go_roundw
      case rel =>
        refine ⟨k + 1, by omega, by go_num, ?_⟩
        rw [← HS1.out]
      case measure => simp [intOf]; omega
    · clear hg
      go_wp2
      go_ret
      obtain rfl : k = n := by omega
      refine ⟨rfl, ?_⟩
      rw [← HFE.out]

set_option maxHeartbeats 400000 in
theorem clone_nil (w : World) (c : Nat) : Calls Try.prog 11 #[.slice none 0 c] w fun e w' => e = .returned (.slice none 0 0) ∧ w' = w := by
  have q35 : ∀ (w : World) (a : Option Addr) (n c n' c' : Nat), (binOp .eql 35 (.slice a n c) (.slice none n' c')).run Try.prog w = .ok (.bool a.isNone) w := fun w a n c n' c' => Lib.run_eql_slice_nil w _ _ a n c n' c' Try.underlying35
  go_enter Try.func11, Try.ntmps11
  go_wp2
  go_ret
  exact ⟨rfl, rfl⟩

theorem clone_any (p : Option Addr) (ss : List ByteArray) (c : Nat) (w : World) (hx : StrsAt w p ss) (bl : ss.length ≤ 1048576) :
    Calls Try.prog 11 #[.slice p ss.length c] w fun e w' => ∃ p' : Option Addr, e = .returned (.slice p' ss.length ss.length) ∧ StrsAt w' p' ss ∧ Below w.heap.size w w' := by
  cases p with
  | none =>
    obtain rfl := hx.isNil
    refine (clone_nil w c).mono ?_
    rintro e w' ⟨rfl, rfl⟩
    exact ⟨none, rfl, .inl rfl, Below.refl _ _⟩
  | some a =>
    refine (clone_some a ss c w hx bl).mono ?_
    rintro e w' ⟨rfl, rfl⟩
    refine ⟨_, rfl, .inr ⟨_, _, rfl, fun i s hi => ?_⟩, (Below.refl _ _).alloc (Nat.le_refl _) _⟩
    rw [Nat.zero_add, World.cell?_alloc_at _ _ _ _ rfl]
    simp [hi]
end Go.Proofs.Qxb6604220a
