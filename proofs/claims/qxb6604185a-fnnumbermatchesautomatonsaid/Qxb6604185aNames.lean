import Derived.Test.Qxb6604185aClone
namespace Go.Proofs.Qxb6604185a
open Go.RowKit

/-- A NAME: is it nil? and its bytes. -/
abbrev Nm := Bool × List Int

/-- THE NAMES OF A [][]byte: cell i of its row holds a slice that is nil just as said, and leads to the bytes that are said. -/
def NamesAt (w : World) (p : Option Addr) (es : List Nm) : Prop :=
  es = [] ∨ ∃ b o, p = some ⟨b, o, none⟩ ∧ ∀ i e, es[i]? = some e → ∃ q c, w.cell? ⟨b, o + i, none⟩ = some (.slice q e.2.length c) ∧ q.isNone = e.1 ∧ BytesAt w q e.2

theorem NamesAt.isNil {w : World} {es : List Nm} (h : NamesAt w none es) : es = [] := by
  rcases h with rfl | ⟨b, o, h, _⟩
  · rfl
  · cases h

/-- e returns a bool; if it is true then P -/
def Says (e : Ending) (P : Prop) : Prop := ∃ t : Bool, e = .returned (.bool t) ∧ (t = true → P)
theorem Says.no {P : Prop} : Says (.returned (.bool false)) P := ⟨false, rfl, fun h => by cases h⟩
theorem Says.yes {P : Prop} (h : P) : Says (.returned (.bool true)) P := ⟨true, rfl, fun _ => h⟩

def Short (es : List Nm) : Prop := es.length ≤ 1048576 ∧ ∀ e ∈ es, e.2.length ≤ 1048576

theorem NamesAt.kept {w w' : World} {p : Option Addr} {es : List Nm} (h : NamesAt w p es) (hb : Below w.heap.size w w') : NamesAt w' p es := by
  rcases h with h | ⟨b, o, rfl, hc⟩
  · exact .inl h
  · refine .inr ⟨b, o, rfl, fun i e hi => ?_⟩
    obtain ⟨q, c, h1, h2, h3⟩ := hc i e hi
    refine ⟨q, c, ?_, h2, h3.kept hb⟩
    rw [hb.cell (p := ⟨b, o + i, none⟩) (lt_of_cell h1)]
    exact h1

set_option maxHeartbeats 400000 in
/-- zzBytes_FnNameSetAddReportsFirstSight -/
theorem bytesA_any (p : Option Addr) (es : List Nm) (c : Nat) (w : World) (hp : NamesAt w p es) :
    Calls Try.prog 11 #[.slice p es.length c] w fun e w' => Says e (Short es) ∧ w' = w := by
  by_cases hn : es.length ≤ 1048576
  · rcases hp with rfl | ⟨b, o, rfl, hc⟩
    · go_enter Try.func11, Try.ntmps11
      go_wp2
      refine wp_loop_rounds 1 ?_
      rw [rounds_succ]
      go_wp2
      go_ret
      exact ⟨Says.yes ⟨by simp, by simp⟩, rfl⟩
    · have HN : Hid (es.length = es.length) := rfl
      generalize hl : es.length = n at *
      have HL : Hid (es.length = n) := hl
      clear hl HN
      go_enter Try.func11, Try.ntmps11
      go_wp2
      go_loop [3, 4] (fun s i => ∃ k t : Nat, k ≤ n ∧ i = .int .i64 k ∧ s = .int .i64 t ∧ t ≤ 1048576 ∧ Hid (∀ j e, j < k → es[j]? = some e → e.2.length ≤ 1048576)) (fun _ i => n - (intOf i).toNat)
      case atStart => exact ⟨0, n, by omega, rfl, by simp, by omega, fun j e hj => by omega⟩
      case round =>
        obtain ⟨k, t, hk, rfl, rfl, ht, HS⟩ := hrel
        by_cases hlt : k < n
        · obtain ⟨e, he⟩ : ∃ e, es[k]? = some e := ⟨_, List.getElem?_eq_getElem (by rw [HL.out]; exact hlt)⟩
          obtain ⟨q, cq, h1, _, _⟩ := hc k e he
          have hki : (k : Int) < (n : Int) := by omega
          have HE : Hid (es[k]? = some e) := he
          clear hc he
          go_wp2
          · go_ret
            exact ⟨Says.no, rfl⟩
          · go_ret
            exact ⟨Says.no, rfl⟩
          · go_round
            case rel => 
              refine ⟨k + 1, t + e.2.length, by omega, by go_num, by go_num, by omega, fun j e' hj he' => ?_⟩
              rcases Nat.lt_succ_iff_lt_or_eq.1 hj with h | rfl
              · exact HS.out j e' h he'
              · rw [HE.out] at he'
                cases he'
                omega
            case measure => simp [intOf]; omega
        · go_wp2
          go_ret
          refine ⟨Says.yes ⟨by rw [HL.out]; exact hn, fun e he => ?_⟩, rfl⟩
          obtain ⟨j, hj⟩ := List.getElem?_of_mem he
          have : j < es.length := (List.getElem?_eq_some_iff.1 hj).1
          have := HL.out
          exact HS.out j e (by omega) hj
  · have hn' : (1048576 : Int) < (es.length : Int) := by omega
    go_enter Try.func11, Try.ntmps11
    go_wp2
    go_ret
    exact ⟨Says.no, rfl⟩

set_option maxHeartbeats 400000 in
/-- zzBytes_FnNameSetRefusesEveryNameTwice -/
theorem bytesB_any (p : Option Addr) (es : List Nm) (c : Nat) (pr : Option Addr) (m d : Nat) (w : World) (hp : NamesAt w p es) :
    Calls Try.prog 16 #[.slice p es.length c, .slice pr m d] w fun e w' => Says e (Short es ∧ m ≤ 1048576) ∧ w' = w := by
  by_cases hn : es.length ≤ 1048576
  · rcases hp with rfl | ⟨b, o, rfl, hc⟩
    · go_enter Try.func16, Try.ntmps16
      go_wp2
      refine wp_loop_rounds 1 ?_
      rw [rounds_succ]
      go_wp2
      all_goals go_ret
      · exact ⟨Says.no, rfl⟩
      · exact ⟨Says.yes ⟨⟨by simp, by simp⟩, by omega⟩, rfl⟩
    · have HN : Hid (es.length = es.length) := rfl
      generalize hl : es.length = n at *
      have HL : Hid (es.length = n) := hl
      clear hl HN
      go_enter Try.func16, Try.ntmps16
      go_wp2
      go_loop [5, 6] (fun s i => ∃ k t : Nat, k ≤ n ∧ i = .int .i64 k ∧ s = .int .i64 t ∧ t ≤ 1048576 ∧ Hid (∀ j e, j < k → es[j]? = some e → e.2.length ≤ 1048576)) (fun _ i => n - (intOf i).toNat)
      case atStart => exact ⟨0, n, by omega, rfl, by simp, by omega, fun j e hj => by omega⟩
      case round =>
        obtain ⟨k, t, hk, rfl, rfl, ht, HS⟩ := hrel
        by_cases hlt : k < n
        · obtain ⟨e, he⟩ : ∃ e, es[k]? = some e := ⟨_, List.getElem?_eq_getElem (by rw [HL.out]; exact hlt)⟩
          obtain ⟨q, cq, h1, _, _⟩ := hc k e he
          have hki : (k : Int) < (n : Int) := by omega
          have HE : Hid (es[k]? = some e) := he
          clear hc he
          go_wp2
          · go_ret
            exact ⟨Says.no, rfl⟩
          · go_ret
            exact ⟨Says.no, rfl⟩
          · go_round
            case rel => 
              refine ⟨k + 1, t + e.2.length, by omega, by go_num, by go_num, by omega, fun j e' hj he' => ?_⟩
              rcases Nat.lt_succ_iff_lt_or_eq.1 hj with h | rfl
              · exact HS.out j e' h he'
              · rw [HE.out] at he'
                cases he'
                omega
            case measure => simp [intOf]; omega
        · go_wp2
          all_goals go_ret
          · exact ⟨Says.no, rfl⟩
          · exact ⟨Says.no, rfl⟩
          refine ⟨Says.yes ⟨⟨by rw [HL.out]; exact hn, fun e he => ?_⟩, by omega⟩, rfl⟩
          obtain ⟨j, hj⟩ := List.getElem?_of_mem he
          have : j < es.length := (List.getElem?_eq_some_iff.1 hj).1
          have := HL.out
          exact HS.out j e (by omega) hj
  · have hn' : (1048576 : Int) < (es.length : Int) := by omega
    go_enter Try.func16, Try.ntmps16
    go_wp2
    go_ret
    exact ⟨Says.no, rfl⟩

set_option maxHeartbeats 400000 in
/-- zzNamesFit, behind the bounds -/
theorem fit_any (p : Option Addr) (es : List Nm) (c m : Nat) (w : World) (hp : NamesAt w p es) (hS : Short es) (hm : m ≤ 1048576) :
    Calls Try.prog 12 #[.slice p es.length c, .int .i64 (m : Int)] w fun e w' => Says e True ∧ w' = w := by
  have hn := hS.1
  have hS2 := hS.2
  clear hS
  rcases hp with rfl | ⟨b, o, rfl, hc⟩
  · go_enter Try.func12, Try.ntmps12
    go_wp2
    refine wp_loop_rounds 1 ?_
    rw [rounds_succ]
    go_wp2
    go_ret
    exact ⟨Says.yes trivial, rfl⟩
  · have hbd : ∀ (k : Nat) (e : Nm), es[k]? = some e → e.2.length ≤ 1048576 := fun k e h => hS2 e (List.mem_of_getElem? h)
    generalize hl : es.length = n at *
    have HL : Hid (es.length = n) := hl
    clear hl hS2
    go_enter Try.func12, Try.ntmps12
    go_wp2
    · go_ret
      exact ⟨Says.no, rfl⟩
    go_loop [5, 6] (fun s i => ∃ k t : Nat, k ≤ n ∧ i = .int .i64 k ∧ s = .int .i64 t ∧ t ≤ 1048576) (fun _ i => n - (intOf i).toNat)
    case atStart => exact ⟨0, 24 * n + m, by omega, rfl, by go_num, by omega⟩
    case round =>
      obtain ⟨k, t, hk, rfl, rfl, ht⟩ := hrel
      by_cases hlt : k < n
      · obtain ⟨e, he⟩ : ∃ e, es[k]? = some e := ⟨_, List.getElem?_eq_getElem (by rw [HL.out]; exact hlt)⟩
        obtain ⟨q, cq, h1, _, _⟩ := hc k e he
        have hki : (k : Int) < (n : Int) := by omega
        have hb := hbd k e he
        clear hc he hbd
        go_wp2
        · go_ret
          exact ⟨Says.no, rfl⟩
        · go_round
          case rel => exact ⟨k + 1, t + e.2.length, by omega, by go_num, by go_num, by omega⟩
          case measure => simp [intOf]; omega
      · go_wp2
        go_ret
        exact ⟨Says.yes trivial, rfl⟩

end Go.Proofs.Qxb6604185a
