import Derived.Test.Qxb6604283aBase
import Derived.ProofKit
import Derived.ChangeOld
namespace Go.Proofs.Qxb6604283a
open Go.ChangeShapes Go.WideShapes Go.ChangeAt Go.RowKit

theorem plain_of_cell {w : World} {a : Addr} {v : Value} (h : w.cell? a = some v) : ∃ b o, a = ⟨b, o, none⟩ := by
  obtain ⟨b, o, s⟩ := a
  cases s with
  | none => exact ⟨b, o, rfl⟩
  | some s =>
    unfold World.cell? at h
    simp at h
    split at h <;> simp at h

theorem byte_of_wf' {n : Int} (h : (Lit.int .u8 n).wf = true) : 0 ≤ n ∧ n < 256 := by
  have e1 : IntKind.u8.min = 0 := by decide
  have e2 : IntKind.u8.max = 255 := by decide
  simp [Lit.wf, e1, e2] at h
  omega

theorem bytesAt_of_row {w : World} {a : Addr} {L : Nat} {Z : List Int} (hl : L ≤ Z.length) (hc : ∀ c, c < Z.length → w.cell? (a.add c) = some (.int .u8 (Z.getD c 0))) : BytesAt w (some a) (Z.take L) := by
  rcases Nat.eq_zero_or_pos L with h0 | h0
  · left; simp [h0]
  · have h1 := hc 0 (by omega)
    have e0 : a.add 0 = a := by simp [Addr.add]
    rw [e0] at h1
    obtain ⟨b, o, rfl⟩ := plain_of_cell h1
    refine .inr ⟨b, o, rfl, fun i hi => ?_⟩
    have hi' : i < L := by simp at hi; omega
    have := hc i (by omega)
    rw [Addr.add_lit] at this
    rw [this]
    simp [List.getD, hi']

theorem bytey_take {Z : List Int} {L : Nat} (h : ∀ n ∈ Z, (Lit.int .u8 n).wf = true) : Bytey (Z.take L) := fun x hx => byte_of_wf' (h x (List.mem_of_mem_take hx))

section
variable {H : Type} {enc : TypeId × Value → H} {w : World} {base : Nat} {held : Bool}

/-- A []byte that came in. -/
theorem open_bytes {a0 : Option Addr} {len cap : Nat} {d : DataW H} {ps : List MemPlace} (h : DataW.Trod enc Try.prog w base (fun _ => true) held 22 (.slice a0 len cap) d ps) :
    ∃ xs : List Int, xs.length = len ∧ BytesAt w a0 xs ∧ Bytey xs := by
  obtain ⟨fuel, hf⟩ := h
  rcases open_ints Try.underlying22 Try.underlying5 (by kernel_rfl) hf with ⟨hcs, _⟩ | ⟨x, l, c, zs, hcs, _, hl, hm, hz, _, hcell, hwz⟩
  · simp [Value.cells] at hcs
    obtain ⟨rfl, rfl, rfl⟩ := hcs
    exact ⟨[], rfl, .inl rfl, by simp [Bytey]⟩
  · simp [Value.cells] at hcs
    obtain ⟨rfl, rfl, rfl⟩ := hcs
    simp only [if_true] at hz
    exact ⟨zs.take len, by simp; omega, bytesAt_of_row (by omega) hcell, bytey_take hwz⟩

end

theorem cons_mk {H : Type} {enc : TypeId × Value → H} {P : Program} {w : World} {base : Nat} {spare : Nat → Bool} {held : Bool} {t : TypeId} {ts : List TypeId} {v : Value} {vs : List Value} {d : DataW H} {ds : List (DataW H)} {p p' : List MemPlace}
    (h : DataW.Trod enc P w base spare held t v d p) (hr : DataW.TrodAll enc P w base spare held ts vs ds p') : DataW.TrodAll enc P w base spare held (t :: ts) (v :: vs) (d :: ds) (p ++ p') := ⟨p, p', h, hr, rfl⟩

theorem nat_u8 {n : Int} (h : (Lit.int .u8 n).wf = true) : ∃ k : Nat, n = (k : Int) ∧ k < 256 := by
  have := byte_of_wf' h
  obtain ⟨k, rfl⟩ := Int.eq_ofNat_of_zero_le this.1
  exact ⟨k, rfl, by omega⟩
theorem nat_u32 {n : Int} (h : (Lit.int .u32 n).wf = true) : ∃ k : Nat, n = (k : Int) ∧ k < 4294967296 := by
  have e1 : IntKind.u32.min = 0 := by decide
  have e2 : IntKind.u32.max = 4294967295 := by decide
  simp [Lit.wf, e1, e2] at h
  obtain ⟨k, rfl⟩ := Int.eq_ofNat_of_zero_le h.1
  exact ⟨k, rfl, by omega⟩
end Go.Proofs.Qxb6604283a
