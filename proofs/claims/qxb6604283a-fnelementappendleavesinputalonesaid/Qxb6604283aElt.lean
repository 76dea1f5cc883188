import Derived.Test.Qxb6604283aBase
import Derived.BigRegion
import Derived.StillTailTactics
namespace Go.Proofs.Qxb6604283a
open Go.RowKit

/-- an element's eight cells -/
def eltOf (cls num : Int) (con ind : Bool) (off : Int) (raw cts : Value) (size : Int) : Value :=
  .agg #[.int .u8 cls, .int .u32 num, .bool con, .bool ind, .int .i64 off, raw, cts, .int .i64 size]

set_option maxRecDepth 100000 in
set_option maxHeartbeats 1000000 in
/-- element -/
theorem element_any (q : Nat) (p : Option Addr) (n c : Nat) (base cls num len : Int) (con ind : Bool) (s z ce en : Nat) (w : World)
    (hd : w.cell? ⟨q, 0, none⟩ = some (.slice p n c)) (hbs : w.cell? ⟨q, 1, none⟩ = some (.int .i64 base))
    (p1 p2 : Option Addr) (hp1 : (if en = s then p else Option.map (fun x => x.add s) p) = p1) (hp2 : (if ce = s + z then p else Option.map (fun x => x.add (s + z)) p) = p2) (h1 : s ≤ en) (h2 : en ≤ c) (h3 : s + z ≤ ce) (h4 : ce ≤ c) (h5 : c ≤ 1048576) :
    Calls Try.prog 15 #[.pointer (some ⟨q, 0, none⟩), .agg #[.int .u8 cls, .int .u32 num, .bool con, .bool ind, .int .i64 len, .int .i64 (z : Int)], .int .i64 (s : Int), .int .i64 (ce : Int), .int .i64 (en : Int)] w fun e w' =>
      (∃ off, e = .returned (eltOf cls num con ind off (.slice p1 (en - s) (en - s)) (.slice p2 (ce - (s + z)) (ce - (s + z))) z)) ∧ Below w.heap.size w w' := by
  have hq := lt_of_cell hd
  go_enter Try.func15, Try.ntmps15
  go_wp2_with fail
  generalize hW : (w.alloc _).alloc _ = W
  have g0 : W.cell? ⟨w.heap.size, 0, none⟩ = some (.int .u8 cls) := by rw [← hW, World.cell?_alloc_past _ _ _ (by simp), World.cell?_alloc_at _ _ _ _ rfl]; rfl
  have g1 : W.cell? ⟨w.heap.size, 1, none⟩ = some (.int .u32 num) := by rw [← hW, World.cell?_alloc_past _ _ _ (by simp), World.cell?_alloc_at _ _ _ _ rfl]; rfl
  have g2 : W.cell? ⟨w.heap.size, 2, none⟩ = some (.bool con) := by rw [← hW, World.cell?_alloc_past _ _ _ (by simp), World.cell?_alloc_at _ _ _ _ rfl]; rfl
  have g3 : W.cell? ⟨w.heap.size, 3, none⟩ = some (.bool ind) := by rw [← hW, World.cell?_alloc_past _ _ _ (by simp), World.cell?_alloc_at _ _ _ _ rfl]; rfl
  have g5 : W.cell? ⟨w.heap.size, 5, none⟩ = some (.int .i64 (z : Int)) := by rw [← hW, World.cell?_alloc_past _ _ _ (by simp), World.cell?_alloc_at _ _ _ _ rfl]; rfl
  have r0 : W.cell? ⟨q, 0, none⟩ = some (.slice p n c) := by rw [← hW, World.cell?_alloc_past _ _ _ (by simp; omega), World.cell?_alloc_past _ _ _ hq, hd]
  have r1 : W.cell? ⟨q, 1, none⟩ = some (.int .i64 base) := by rw [← hW, World.cell?_alloc_past _ _ _ (by simp; omega), World.cell?_alloc_past _ _ _ hq, hbs]
  have hwz : IntKind.i64.wrap ((s : Int) + (z : Int)) = ((s + z : Nat) : Int) := by rw [IntKind.wrap_i64]; omega
  have hz1 : (s : Int) + (z : Int) ≤ (ce : Int) := by omega
  have hz2 : 0 ≤ (s : Int) + (z : Int) := by omega
  have hz3 : ((s : Int) + (z : Int)).toNat = s + z := by omega
  go_still_tail 34, (by kernel_rfl)
  rw [show ({ heap := W.heap, tape := W.tape, drawn := W.drawn + 1, os := W.os, output := W.output } : World) = W.drew from rfl]
  clear g0 g1 g2 g3 g5 r0 r1 hwz
  subst hW
  go_wp2_with fail
  refine bodyPost_ret (v := eltOf cls num con ind (wrap64 (base + s)) (.slice p1 (en - s) (en - s)) (.slice p2 (ce - (s + z)) (ce - (s + z))) z) ?_ rfl ⟨⟨_, rfl⟩, ?_⟩
  · simp [results, Try.results15, go_sem, eltOf]
  · exact (((Below.refl _ _).alloc (Nat.le_refl _) _).alloc (by simp) _).drew
end Go.Proofs.Qxb6604283a
