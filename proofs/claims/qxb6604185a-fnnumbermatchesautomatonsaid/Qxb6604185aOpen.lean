import Derived.Test.Qxb6604185aNames
import Derived.ProofKit
import Derived.ChangeOld
import Derived.Deep.Matrix
namespace Go.Proofs.Qxb6604185a
open Go.ChangeShapes Go.WideShapes Go.ChangeAt Go.RowKit

theorem plain_of_cell {w : World} {a : Addr} {v : Value} (h : w.cell? a = some v) : ∃ b o, a = ⟨b, o, none⟩ := by
  obtain ⟨b, o, s⟩ := a
  cases s with
  | none => exact ⟨b, o, rfl⟩
  | some s =>
    unfold World.cell? at h
    simp at h
    split at h <;> simp at h

theorem byte_of_wf' {n : Int} (h : (Lit.int .u8 n).wf = true) : 0 ≤ n ∧ n < 256 := by
  have e1 : IntKind.u8.min = 0 := by decide
  have e2 : IntKind.u8.max = 255 := by decide
  simp [Lit.wf, e1, e2] at h
  omega

theorem bytesAt_of_row {w : World} {a : Addr} {L : Nat} {Z : List Int} (hl : L ≤ Z.length) (hc : ∀ c, c < Z.length → w.cell? (a.add c) = some (.int .u8 (Z.getD c 0))) : BytesAt w (some a) (Z.take L) := by
  rcases Nat.eq_zero_or_pos L with h0 | h0
  · left; simp [h0]
  · have h1 := hc 0 (by omega)
    have e0 : a.add 0 = a := by simp [Addr.add]
    rw [e0] at h1
    obtain ⟨b, o, rfl⟩ := plain_of_cell h1
    refine .inr ⟨b, o, rfl, fun i hi => ?_⟩
    have hi' : i < L := by simp at hi; omega
    have := hc i (by omega)
    rw [Addr.add_lit] at this
    rw [this]
    simp [List.getD, hi']

theorem bytey_take {Z : List Int} {L : Nat} (h : ∀ n ∈ Z, (Lit.int .u8 n).wf = true) : Bytey (Z.take L) := fun x hx => byte_of_wf' (h x (List.mem_of_mem_take hx))

section
variable {H : Type} {enc : TypeId × Value → H} {w : World} {base : Nat} {held : Bool}

/-- A []byte that came in. -/
theorem open_bytes {a0 : Option Addr} {len cap : Nat} {d : DataW H} {ps : List MemPlace} (h : DataW.Trod enc Try.prog w base (fun _ => true) held 22 (.slice a0 len cap) d ps) :
    ∃ xs : List Int, xs.length = len ∧ BytesAt w a0 xs ∧ Bytey xs := by
  obtain ⟨fuel, hf⟩ := h
  rcases open_ints Try.underlying22 Try.underlying5 (by kernel_rfl) hf with ⟨hcs, _⟩ | ⟨x, l, c, zs, hcs, _, hl, hm, hz, _, hcell, hwz⟩
  · simp [Value.cells] at hcs
    obtain ⟨rfl, rfl, rfl⟩ := hcs
    exact ⟨[], rfl, .inl rfl, by simp [Bytey]⟩
  · simp [Value.cells] at hcs
    obtain ⟨rfl, rfl, rfl⟩ := hcs
    simp only [if_true] at hz
    exact ⟨zs.take len, by simp; omega, bytesAt_of_row (by omega) hcell, bytey_take hwz⟩

/-- A [][]byte that came in. -/
theorem open_names {a0 : Option Addr} {len cap : Nat} {d : DataW H} {ps : List MemPlace} (h : DataW.Trod enc Try.prog w base (fun _ => true) held 30 (.slice a0 len cap) d ps) :
    ∃ es : List Nm, es.length = len ∧ NamesAt w a0 es ∧ ∀ e ∈ es, Bytey e.2 := by
  obtain ⟨fuel, hf⟩ := h
  rcases Deep.open_int_rows Try.underlying30 Try.underlying22 Try.underlying5 (by kernel_rfl) (by kernel_rfl) hf with ⟨hcs, _⟩ | ⟨x, l, c, A, L, C, Z, hcs, _, hl, hm, _, hr⟩
  · simp [Value.cells] at hcs
    obtain ⟨rfl, rfl, rfl⟩ := hcs
    exact ⟨[], rfl, .inl rfl, by simp⟩
  · simp [Value.cells] at hcs
    obtain ⟨rfl, rfl, rfl⟩ := hcs
    refine ⟨(List.range len).map fun r => ((A r).isNone, (Z r).take (L r)), by simp, ?_, ?_⟩
    · rcases Nat.eq_zero_or_pos len with h0 | h0
      · left; simp [h0]
      · have h1 := (hr 0 (by omega)).1
        have e0 : x.add 0 = x := by simp [Addr.add]
        rw [e0] at h1
        obtain ⟨b, o, rfl⟩ := plain_of_cell h1
        refine .inr ⟨b, o, rfl, fun i e hi => ?_⟩
        obtain ⟨hil, he⟩ := List.getElem?_eq_some_iff.1 hi
        simp at hil
        simp at he
        subst he
        obtain ⟨r1, r2, r3, r4, r5, r6, r7⟩ := hr i (by omega)
        rw [Addr.add_lit] at r1
        refine ⟨A i, C i, ?_, rfl, ?_⟩
        · rw [r1]
          simp
          omega
        · cases hA : A i with
          | none =>
            left
            have := r6 hA
            have : (Z i) = [] := List.eq_nil_of_length_eq_zero (by omega)
            simp [this]
          | some a' => exact bytesAt_of_row (by omega) (fun c hc => (r7 a' hA).2 c (by omega))
    · intro e he
      obtain ⟨r, hr', rfl⟩ := List.mem_map.1 he
      have := List.mem_range.1 hr'
      obtain ⟨r1, r2, r3, r4, r5, r6, r7⟩ := hr r (by omega)
      exact bytey_take r5
end
end Go.Proofs.Qxb6604185a
