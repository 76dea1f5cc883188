import Derived.Test.Qxb6604220aSmall
import Derived.LaidEql
namespace Go.Proofs.Qxb6604220a
open Go.RowKit
def flds (A : Nat) : List Fd := [(nU, some ⟨A, 0, none⟩), (nM, some ⟨A, 1, none⟩), (nUM, some ⟨A, 2, none⟩), (nS, some ⟨A, 3, none⟩)]
theorem ne_beq {x q : ByteArray} (h : q ≠ x) : (x.toList == q.toList) = false := by
  rw [beq_eq_false_iff_ne]
  intro e
  rw [ByteArray.toList_eq, ByteArray.toList_eq] at e
  exact h (WideShapes.bytes_inj e).symm
theorem res_U (A : Nat) : res (flds A) nU = (nU, some ⟨A, 0, none⟩, true) := by
  simp [res, flds]
theorem res_M (A : Nat) : res (flds A) nM = (nM, some ⟨A, 1, none⟩, true) := by
  have h1 : (nU.toList == nM.toList) = false := ne_beq (by decide)
  simp only [res, flds, List.find?, h1]
  simp
theorem res_UM (A : Nat) : res (flds A) nUM = (nUM, some ⟨A, 2, none⟩, true) := by
  have h1 : (nU.toList == nUM.toList) = false := ne_beq (by decide)
  have h2 : (nM.toList == nUM.toList) = false := ne_beq (by decide)
  simp only [res, flds, List.find?, h1, h2]
  simp
theorem res_S (A : Nat) : res (flds A) nS = (nS, some ⟨A, 3, none⟩, true) := by
  have h1 : (nU.toList == nS.toList) = false := ne_beq (by decide)
  have h2 : (nM.toList == nS.toList) = false := ne_beq (by decide)
  have h3 : (nUM.toList == nS.toList) = false := ne_beq (by decide)
  simp only [res, flds, List.find?, h1, h2, h3]
  simp
theorem res_no (A : Nat) {q : ByteArray} (h1 : q ≠ nU) (h2 : q ≠ nM) (h3 : q ≠ nUM) (h4 : q ≠ nS) : res (flds A) q = ({ data := #[] }, none, false) := by
  simp only [res, flds, List.find?, ne_beq h1, ne_beq h2, ne_beq h3, ne_beq h4]
theorem run_equalIn_ptr_same {P : Program} (w : World) (d : Nat) {t te : TypeId} {j : TypeInfo} (a : Addr) (hp : P.underlying t = some (.pointer te)) (hte : P.info? te = some j) :
    (Op.equalIn (d + 1) t (.pointer (some a)) (.pointer (some a))).run P w = .ok true w := by
  simp [Op.equalIn, run_underlying hp, sizeOf, typeInfo, hte, run_sameAddr_same]
theorem info9 : ∃ j, Try.prog.info? 9 = some j := by
  have h : (Try.prog.info? 9).isSome = true := by kernel_rfl
  exact Option.isSome_iff_exists.1 h
theorem eq28 (w : World) (a : Addr) : (binOp .eql 28 (.pointer (some a)) (.pointer (some a))).run Try.prog w = .ok (.bool true) w := by
  obtain ⟨j, hj⟩ := info9
  simp only [binOp]
  simp [Op.equal, Op.maxDepth, run_equalIn_ptr_same w 9999 a Try.underlying28 hj]
end Go.Proofs.Qxb6604220a
