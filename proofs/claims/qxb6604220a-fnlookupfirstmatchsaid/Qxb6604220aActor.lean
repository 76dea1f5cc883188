import Derived.Test.Qxb6604220aRes
namespace Go.Proofs.Qxb6604220a
open Go.RowKit

/-- e returns a bool; if it is true then P -/
def Says (e : Ending) (P : Prop) : Prop := ∃ t : Bool, e = .returned (.bool t) ∧ (t = true → P)
theorem Says.no {P : Prop} : Says (.returned (.bool false)) P := ⟨false, rfl, fun h => by cases h⟩
theorem Says.yes {P : Prop} (h : P) : Says (.returned (.bool true)) P := ⟨true, rfl, fun _ => h⟩

set_option maxHeartbeats 1000000 in
theorem bytesL_any (a b c d q : ByteArray) (w : World) :
    Calls Try.prog 5 #[.string a, .string b, .string c, .string d, .string q] w fun e w' => Says e (a.size + b.size + c.size + d.size + q.size ≤ 1048576) ∧ w' = w := by
  go_enter Try.func5, Try.ntmps5
  go_wp2
  all_goals go_ret
  all_goals first
    | exact ⟨Says.no, rfl⟩
    | exact ⟨Says.yes (by omega), rfl⟩

theorem zzActor_any (A : Nat) (w : World) :
    Calls Try.prog 6 #[.pointer (some ⟨A, 0, none⟩)] w fun e w' => e = .returned (.slice (some ⟨w.heap.size, 0, none⟩) 4 4) ∧ FieldsAt w' (some ⟨w.heap.size, 0, none⟩) (flds A) ∧ Below w.heap.size w w' := by
  go_enter Try.func6, Try.ntmps6
  go_wp2_with fail
  refine (actor_any A w).mono ?_
  rintro e w1 ⟨rfl, n, rfl⟩
  go_wp2
  go_ret
  refine ⟨rfl, .inr ⟨_, _, rfl, fun i f hi => ?_⟩, below_drewN ((Below.refl _ _).alloc (Nat.le_refl _) _) n⟩
  rw [World.cell?_drewN, World.cell?_drewN, World.cell?_alloc_at _ _ _ _ rfl, World.cell?_alloc_at _ _ _ _ rfl]
  obtain ⟨hl, he⟩ := List.getElem?_eq_some_iff.1 hi
  have hl' : i < 4 := hl
  have h4 : i = 0 ∨ i = 1 ∨ i = 2 ∨ i = 3 := by omega
  rcases h4 with rfl | rfl | rfl | rfl <;> (simp [flds] at he; subst he; exact ⟨rfl, rfl⟩)

theorem tl_yes {q x : ByteArray} (h : q = x) : (q.toList == x.data.toList) = true := by rw [h, ByteArray.toList_eq]; simp
theorem tl_no {q x : ByteArray} (h : q ≠ x) : (q.toList == x.data.toList) = false := by
  rw [beq_eq_false_iff_ne, ByteArray.toList_eq]
  exact fun e => h (WideShapes.bytes_inj e)
theorem below3 {w w3 : World} {o1 o2 o3 : Obj} (h : Below w.heap.size w w3) : Below w.heap.size w (((w3.alloc o1).alloc o2).alloc o3) := by
  have := h.size
  exact ((h.alloc h.size _).alloc (by simp; omega) _).alloc (by simp; omega) _

set_option maxRecDepth 100000 in
set_option maxHeartbeats 1600000 in
theorem actor_walk (a b c d q : ByteArray) (w : World) :
    Calls Try.prog 3 #[.string a, .string b, .string c, .string d, .string q] w fun e w' => e = .returned (.bool true) ∧ Below w.heap.size w w' := by
  go_enter Try.func3, Try.ntmps3
  go_wp2_with fail
  refine (bytesL_any a b c d q w).mono ?_
  rintro e w' ⟨⟨t, rfl, ht⟩, hw⟩
  obtain rfl : w = w' := hw.symm
  cases t
  · go_wp2
    go_ret
    exact ⟨rfl, Below.refl _ _⟩
  have hbd := ht rfl
  clear ht
  have ha : a.size ≤ 1048576 := by omega
  have hb : b.size ≤ 1048576 := by omega
  have hc : c.size ≤ 1048576 := by omega
  have hd : d.size ≤ 1048576 := by omega
  have hq : q.size ≤ 1048576 := by omega
  go_wp2_with fail
  refine (zzActor_any w.heap.size _).mono ?_
  rintro e w2 ⟨rfl, hF, hb2⟩
  have hB2 : Below w.heap.size w w2 := ((Below.refl _ _).alloc (Nat.le_refl _) _).trans (hb2.mono (by simp))
  clear hb2
  have hlk := zzLookup_any _ (flds w.heap.size) 4 q w2 hF (by simp [flds])
  simp only [World.size_alloc] at hlk
  have e28 := eq28
  by_cases h1 : q = nU
  · have hlk' : Calls Try.prog 7 #[.slice (some ⟨w.heap.size + 1, 0, none⟩) 4 4, .string q] w2 fun e w' => e = .returned (.tuple #[.agg #[.string q, .pointer (some ⟨w.heap.size, 0, none⟩)], .bool true]) ∧ Below w2.heap.size w2 w' := by
      have h := hlk
      rw [show res (flds w.heap.size) q = (q, some ⟨w.heap.size, 0, none⟩, true) from by rw [h1]; exact res_U _] at h
      exact h
    have t1 : (q.toList == [117, 115, 101, 114, 95, 105, 100]) = true := tl_yes h1
    clear hlk hF h1
    go_wp2_with fail
    refine hlk'.mono ?_
    rintro e w3 ⟨rfl, hb3⟩
    have hB3 := hB2.trans (hb3.mono hB2.size)
    clear hb3 hlk' hB2
    go_wp2_with fail
    refine (name_any q (some ⟨w.heap.size, 0, none⟩) _).mono ?_
    rintro e w4 ⟨rfl, rfl⟩
    go_wp2_with fail
    refine (value_any q (some ⟨w.heap.size, 0, none⟩) _).mono ?_
    rintro e w4 ⟨rfl, rfl⟩
    go_wp2_with fail
    go_ret
    refine ⟨rfl, ?_⟩
    exact below3 hB3
  by_cases h2 : q = nM
  · have hlk' : Calls Try.prog 7 #[.slice (some ⟨w.heap.size + 1, 0, none⟩) 4 4, .string q] w2 fun e w' => e = .returned (.tuple #[.agg #[.string q, .pointer (some ⟨w.heap.size, 1, none⟩)], .bool true]) ∧ Below w2.heap.size w2 w' := by
      have h := hlk
      rw [show res (flds w.heap.size) q = (q, some ⟨w.heap.size, 1, none⟩, true) from by rw [h2]; exact res_M _] at h
      exact h
    have t1 : (q.toList == [117, 115, 101, 114, 95, 105, 100]) = false := tl_no h1
    have t2 : (q.toList == [109, 101, 109, 98, 101, 114, 95, 105, 100]) = true := tl_yes h2
    clear hlk hF h1 h2
    go_wp2_with fail
    refine hlk'.mono ?_
    rintro e w3 ⟨rfl, hb3⟩
    have hB3 := hB2.trans (hb3.mono hB2.size)
    clear hb3 hlk' hB2
    go_wp2_with fail
    refine (name_any q (some ⟨w.heap.size, 1, none⟩) _).mono ?_
    rintro e w4 ⟨rfl, rfl⟩
    go_wp2_with fail
    refine (value_any q (some ⟨w.heap.size, 1, none⟩) _).mono ?_
    rintro e w4 ⟨rfl, rfl⟩
    go_wp2_with fail
    go_ret
    refine ⟨rfl, ?_⟩
    exact below3 hB3
  by_cases h3 : q = nUM
  · have hlk' : Calls Try.prog 7 #[.slice (some ⟨w.heap.size + 1, 0, none⟩) 4 4, .string q] w2 fun e w' => e = .returned (.tuple #[.agg #[.string q, .pointer (some ⟨w.heap.size, 2, none⟩)], .bool true]) ∧ Below w2.heap.size w2 w' := by
      have h := hlk
      rw [show res (flds w.heap.size) q = (q, some ⟨w.heap.size, 2, none⟩, true) from by rw [h3]; exact res_UM _] at h
      exact h
    have t1 : (q.toList == [117, 115, 101, 114, 95, 105, 100]) = false := tl_no h1
    have t2 : (q.toList == [109, 101, 109, 98, 101, 114, 95, 105, 100]) = false := tl_no h2
    have t3 : (q.toList == [117, 115, 101, 114, 95, 109, 101, 109, 98, 101, 114, 95, 105, 100]) = true := tl_yes h3
    clear hlk hF h1 h2 h3
    go_wp2_with fail
    refine hlk'.mono ?_
    rintro e w3 ⟨rfl, hb3⟩
    have hB3 := hB2.trans (hb3.mono hB2.size)
    clear hb3 hlk' hB2
    go_wp2_with fail
    refine (name_any q (some ⟨w.heap.size, 2, none⟩) _).mono ?_
    rintro e w4 ⟨rfl, rfl⟩
    go_wp2_with fail
    refine (value_any q (some ⟨w.heap.size, 2, none⟩) _).mono ?_
    rintro e w4 ⟨rfl, rfl⟩
    go_wp2_with fail
    go_ret
    refine ⟨rfl, ?_⟩
    exact below3 hB3
  by_cases h4 : q = nS
  · have hlk' : Calls Try.prog 7 #[.slice (some ⟨w.heap.size + 1, 0, none⟩) 4 4, .string q] w2 fun e w' => e = .returned (.tuple #[.agg #[.string q, .pointer (some ⟨w.heap.size, 3, none⟩)], .bool true]) ∧ Below w2.heap.size w2 w' := by
      have h := hlk
      rw [show res (flds w.heap.size) q = (q, some ⟨w.heap.size, 3, none⟩, true) from by rw [h4]; exact res_S _] at h
      exact h
    have t1 : (q.toList == [117, 115, 101, 114, 95, 105, 100]) = false := tl_no h1
    have t2 : (q.toList == [109, 101, 109, 98, 101, 114, 95, 105, 100]) = false := tl_no h2
    have t3 : (q.toList == [117, 115, 101, 114, 95, 109, 101, 109, 98, 101, 114, 95, 105, 100]) = false := tl_no h3
    have t4 : (q.toList == [115, 112, 97, 99, 101, 95, 105, 100]) = true := tl_yes h4
    clear hlk hF h1 h2 h3 h4
    go_wp2_with fail
    refine hlk'.mono ?_
    rintro e w3 ⟨rfl, hb3⟩
    have hB3 := hB2.trans (hb3.mono hB2.size)
    clear hb3 hlk' hB2
    go_wp2_with fail
    refine (name_any q (some ⟨w.heap.size, 3, none⟩) _).mono ?_
    rintro e w4 ⟨rfl, rfl⟩
    go_wp2_with fail
    refine (value_any q (some ⟨w.heap.size, 3, none⟩) _).mono ?_
    rintro e w4 ⟨rfl, rfl⟩
    go_wp2_with fail
    go_ret
    refine ⟨rfl, ?_⟩
    exact below3 hB3
  have hlk' : Calls Try.prog 7 #[.slice (some ⟨w.heap.size + 1, 0, none⟩) 4 4, .string q] w2 fun e w' => e = .returned (.tuple #[.agg #[.string { data := #[] }, .pointer none], .bool false]) ∧ Below w2.heap.size w2 w' := by
    have h := hlk
    rw [res_no _ h1 h2 h3 h4] at h
    exact h
  have t1 : (q.toList == [117, 115, 101, 114, 95, 105, 100]) = false := tl_no h1
  have t2 : (q.toList == [109, 101, 109, 98, 101, 114, 95, 105, 100]) = false := tl_no h2
  have t3 : (q.toList == [117, 115, 101, 114, 95, 109, 101, 109, 98, 101, 114, 95, 105, 100]) = false := tl_no h3
  have t4 : (q.toList == [115, 112, 97, 99, 101, 95, 105, 100]) = false := tl_no h4
  clear hlk hF h1 h2 h3 h4
  go_wp2_with fail
  refine hlk'.mono ?_
  rintro e w3 ⟨rfl, hb3⟩
  have hB3 := hB2.trans (hb3.mono hB2.size)
  clear hb3 hlk' hB2
  go_wp2_with fail
  refine (name_any { data := #[] } none _).mono ?_
  rintro e w4 ⟨rfl, rfl⟩
  go_wp2_with fail
  refine (value_any { data := #[] } none _).mono ?_
  rintro e w4 ⟨rfl, rfl⟩
  go_wp2_with fail
  go_ret
  refine ⟨rfl, ?_⟩
  exact below3 hB3
end Go.Proofs.Qxb6604220a
