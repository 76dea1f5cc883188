import Derived.Test.Qxb6604220aRows
import Derived.WalkKit
import Derived.WalkSpells
import Derived.WalkLawsBesides
import Derived.Deep.QuietTactic
import Derived.BigQuiet
import Derived.RegionTactic
namespace Go.Proofs.Qxb6604220a
open Go.RowKit

/-- A field: its name, and what its pointer holds. -/
abbrev Fd := ByteArray × Option Addr

def FieldsAt (w : World) (p : Option Addr) (fs : List Fd) : Prop :=
  fs = [] ∨ ∃ b o, p = some ⟨b, o, none⟩ ∧ ∀ i f, fs[i]? = some f → w.cell? ⟨b, o + i * 2, none⟩ = some (.string f.1) ∧ w.cell? ⟨b, o + i * 2 + 1, none⟩ = some (.pointer f.2)

/-- what lookup answers -/
def res (fs : List Fd) (q : ByteArray) : ByteArray × Option Addr × Bool :=
  match fs.find? (fun f => f.1.toList == q.toList) with
  | some f => (f.1, f.2, true)
  | none => ({ data := #[] }, none, false)

theorem lt_of_cell {w : World} {b o : Nat} {v : Value} (h : w.cell? ⟨b, o, none⟩ = some v) : b < w.heap.size := by
  unfold World.cell? at h
  rcases Nat.lt_or_ge b w.heap.size with h' | h'
  · exact h'
  · simp [Array.getElem?_eq_none h'] at h
theorem block_setCell {w : World} {N i : Nat} {C : Array Value} {t : TypeId} (h : w.heap[N]? = some (.cells C t (0, 0))) (v : Value) :
    (w.setCell ⟨N, i, none⟩ v).heap[N]? = some (.cells (C.setIfInBounds i v) t (0, 0)) := by
  simp [World.setCell, Array.getElem?_modify, h]
theorem cell_block {w : World} {N i : Nat} {C : Array Value} {t : TypeId} {f : Nat × Nat} (h : w.heap[N]? = some (.cells C t f)) : w.cell? ⟨N, i, none⟩ = C[i]? := by
  simp [World.cell?, h]
theorem frozen_block {w : World} {N i : Nat} {C : Array Value} {t : TypeId} (h : w.heap[N]? = some (.cells C t (0, 0))) : w.frozen? ⟨N, i, none⟩ = false := by
  simp [World.frozen?, h]
theorem size_of_block {w : World} {N : Nat} {o : Obj} (h : w.heap[N]? = some o) : N < w.heap.size := (Array.getElem?_eq_some_iff.1 h).1

theorem res_step {fs : List Fd} {q : ByteArray} {k : Nat} {f : Fd} (H : Hid (∀ (j : Nat) (f : Fd), j < k → fs[j]? = some f → (f.1.toList == q.toList) = false)) (hf : Hid (fs[k]? = some f)) (he : (f.1.toList == q.toList) = false) :
    Hid (∀ (j : Nat) (f : Fd), j < k + 1 → fs[j]? = some f → (f.1.toList == q.toList) = false) := by
  intro j g hj hg
  rcases Nat.lt_succ_iff_lt_or_eq.1 hj with h | rfl
  · exact H.out j g h hg
  · rw [hf.out] at hg
    cases hg
    exact he
theorem res_found {fs : List Fd} {q : ByteArray} {k : Nat} {f : Fd} (H : Hid (∀ (j : Nat) (f : Fd), j < k → fs[j]? = some f → (f.1.toList == q.toList) = false)) (hf : Hid (fs[k]? = some f)) (he : (f.1.toList == q.toList) = true) :
    res fs q = (f.1, f.2, true) := by
  obtain ⟨hk, hfk⟩ := List.getElem?_eq_some_iff.1 hf.out
  have : fs.find? (fun f => f.1.toList == q.toList) = some f := by
    rw [List.find?_eq_some_iff_getElem]
    refine ⟨he, k, hk, hfk, fun j hj => ?_⟩
    rw [H.out j _ hj (List.getElem?_eq_getElem (by omega))]
    rfl
  unfold res
  rw [this]
theorem res_none {fs : List Fd} {q : ByteArray} (H : ∀ (j : Nat) (f : Fd), fs[j]? = some f → (f.1.toList == q.toList) = false) : res fs q = ({ data := #[] }, none, false) := by
  have : fs.find? (fun f => f.1.toList == q.toList) = none := by
    rw [List.find?_eq_none]
    intro f hf
    obtain ⟨j, hj⟩ := List.getElem?_of_mem hf
    rw [H j f hj]
    simp
  unfold res
  rw [this]

set_option maxHeartbeats 1000000 in
/-- lookup -/
theorem lookup_any (p : Option Addr) (fs : List Fd) (c : Nat) (q : ByteArray) (w : World) (hf : FieldsAt w p fs) (bl : fs.length ≤ 1099511627776) :
    Calls Try.prog 14 #[.slice p fs.length c, .string q] w fun e w' => e = .returned (.tuple #[.agg #[.string (res fs q).1, .pointer (res fs q).2.1], .bool (res fs q).2.2]) ∧ Below w.heap.size w w' := by
  have hne : ∀ m, m < fs.length → ∃ b o f, p = some ⟨b, o, none⟩ ∧ fs[m]? = some f ∧ w.cell? ⟨b, o + m * 2, none⟩ = some (.string f.1) ∧ w.cell? ⟨b, o + m * 2 + 1, none⟩ = some (.pointer f.2) := fun m hm => by
    rcases hf with rfl | ⟨b, o, e, h⟩
    · simp at hm
    · exact ⟨b, o, _, e, List.getElem?_eq_getElem hm, h m _ (List.getElem?_eq_getElem hm)⟩
  clear hf
  generalize hl : fs.length = n at *
  have HL : Hid (fs.length = n) := hl
  clear hl
  go_enter Try.func14, Try.ntmps14
  go_wp2
  go_loopw [10] (fun i wr => ∃ k : Nat, k ≤ n ∧ i = .int .i64 k ∧ Below w.heap.size w wr ∧ wr.heap[w.heap.size]? = some (.cells #[.string { data := #[] }, .pointer none] 30 (0, 0)) ∧ Hid (∀ j f, j < k → fs[j]? = some f → (f.1.toList == q.toList) = false)) (fun i _ => n - (intOf i).toNat)
  case atStart => exact ⟨0, Nat.zero_le _, rfl, (Below.refl _ _).alloc (Nat.le_refl _) _, by show (w.heap.push _)[w.heap.size]? = _; simp, fun j f hj => by omega⟩
  case round =>
    obtain ⟨k, hk, rfl, hb, hR, HN⟩ := hrel
    by_cases hlt : k < n
    · obtain ⟨b, o, f, rfl, hfk, h1, h2⟩ := hne k hlt
      have h1r : wr.cell? ⟨b, o + k * 2, none⟩ = some (.string f.1) := (hb.cell (p := ⟨b, o + k * 2, none⟩) (lt_of_cell h1)).trans h1
      have h2r : wr.cell? ⟨b, o + k * 2 + 1, none⟩ = some (.pointer f.2) := (hb.cell (p := ⟨b, o + k * 2 + 1, none⟩) (lt_of_cell h2)).trans h2
      have hki : (k : Int) < (n : Int) := by omega
      have HF : Hid (fs[k]? = some f) := hfk
      have r0 : wr.cell? ⟨w.heap.size, 0, none⟩ = some (.string { data := #[] }) := by rw [cell_block hR]; rfl
      have r1 : wr.cell? ⟨w.heap.size, 1, none⟩ = some (.pointer none) := by rw [cell_block hR]; rfl
      have fz := fun i => frozen_block (i := i) hR
      have hRl := size_of_block hR
      clear hne hfk h1 h2
      cases he : (f.1.toList == q.toList)
      · go_wp2
        go_roundw
        case rel =>
          refine ⟨k + 1, by omega, by go_num, hb.alloc (by omega) _, ?_, res_step HN HF he⟩
          rw [Below.heap_alloc _ _ _ hRl]
          exact hR
        case measure => simp [intOf]; omega
      · have hres := res_found HN HF he
        have HR : Hid (res fs q = (f.1, f.2, true)) := hres
        clear hres
        have hR2 := block_setCell (i := 1) (block_setCell (i := 0) hR (.string f.1)) (.pointer f.2)
        have q0 := cell_block (i := 0) hR2
        have q1 := cell_block (i := 1) hR2
        have hsz : ((wr.setCell ⟨w.heap.size, 0, none⟩ (.string f.1)).setCell ⟨w.heap.size, 1, none⟩ (.pointer f.2)).heap.size = wr.heap.size := by simp [World.setCell]
        go_wp2
        rw [HR.out]
        refine bodyPost_ret (v := .tuple #[.agg #[.string f.1, .pointer f.2], .bool true]) ?_ rfl ⟨rfl, ?_⟩
        · simp [results, Try.results14, go_sem, hRl, q0, q1, hsz]
        · exact ((hb.setCell (Nat.le_refl _) _).setCell (Nat.le_refl _) _).alloc (by rw [hsz]; omega) _
    · have HR : Hid (res fs q = ({ data := #[] }, none, false)) := res_none (fun j f hj => HN.out j f (by have := (List.getElem?_eq_some_iff.1 hj).1; have := HL.out; omega) hj)
      have r0 : wr.cell? ⟨w.heap.size, 0, none⟩ = some (.string { data := #[] }) := by rw [cell_block hR]; rfl
      have r1 : wr.cell? ⟨w.heap.size, 1, none⟩ = some (.pointer none) := by rw [cell_block hR]; rfl
      have fz := fun i => frozen_block (i := i) hR
      have hRl := size_of_block hR
      clear hne
      have hR2 := block_setCell (i := 1) (block_setCell (i := 0) hR (.string { data := #[] })) (.pointer none)
      have q0 := cell_block (i := 0) hR2
      have q1 := cell_block (i := 1) hR2
      go_wp2
      rw [HR.out]
      refine bodyPost_ret (v := .tuple #[.agg #[.string { data := #[] }, .pointer none], .bool false]) ?_ rfl ⟨rfl, ?_⟩
      · simp [results, Try.results14, go_sem, q0, q1]
      · exact (hb.setCell (Nat.le_refl _) _).setCell (Nat.le_refl _) _
end Go.Proofs.Qxb6604220a
