import Derived.Test.Qxb6604283aElt
namespace Go.Proofs.Qxb6604283a
open Go.RowKit

def zeros8 : Array Value := #[.int .u8 0, .int .u32 0, .bool false, .bool false, .int .i64 0, .slice none 0 0, .slice none 0 0, .int .i64 0]

set_option maxRecDepth 100000 in
set_option maxHeartbeats 1000000 in
/-- ZZElement -/
theorem zzElement_any (p : Option Addr) (n c : Nat) (base cls num len : Int) (con ind : Bool) (s z ce en : Nat) (w : World)
    (p1 p2 : Option Addr) (hp1 : (if en = s then p else Option.map (fun x => x.add s) p) = p1) (hp2 : (if ce = s + z then p else Option.map (fun x => x.add (s + z)) p) = p2) (h1 : s ≤ en) (h2 : en ≤ c) (h3 : s + z ≤ ce) (h4 : ce ≤ c) (h5 : c ≤ 1048576) :
    Calls Try.prog 13 #[.slice p n c, .int .i64 base, .int .u8 cls, .int .u32 num, .bool con, .bool ind, .int .i64 len, .int .i64 (z : Int), .int .i64 (s : Int), .int .i64 (ce : Int), .int .i64 (en : Int)] w fun e w' =>
      (∃ off, e = .returned (.tuple #[eltOf cls num con ind off (.slice p1 (en - s) (en - s)) (.slice p2 (ce - (s + z)) (ce - (s + z))) z, .int .i64 z])) ∧ Below w.heap.size w w' := by
  go_enter Try.func13, Try.ntmps13
  go_wp2_with fail
  generalize hW : ((w.alloc _).alloc _).alloc _ = W
  have hsz : W.heap.size = w.heap.size + 3 := by rw [← hW]; simp
  have hB : Below w.heap.size w W := by rw [← hW]; exact ((((Below.refl _ _).alloc (Nat.le_refl _) _).alloc (by simp) _).alloc (by simp; omega) _)
  have hd : W.cell? ⟨w.heap.size + 1, 0, none⟩ = some (.slice p n c) := by rw [← hW, World.cell?_alloc_past _ _ _ (by simp), World.cell?_alloc_at _ _ _ _ (by simp)]; rfl
  have hbs : W.cell? ⟨w.heap.size + 1, 1, none⟩ = some (.int .i64 base) := by rw [← hW, World.cell?_alloc_past _ _ _ (by simp), World.cell?_alloc_at _ _ _ _ (by simp)]; rfl
  have hC : ∀ j v, zeros8[j]? = some v → W.cell? ⟨w.heap.size, j, none⟩ = some v ∧ W.frozen? ⟨w.heap.size, j, none⟩ = false := by
    intro j v hj
    rw [← hW, World.cell?_alloc_past _ _ _ (by simp; omega), World.cell?_alloc_past _ _ _ (by simp), World.cell?_alloc_at _ _ _ _ rfl, World.frozen?_alloc_past _ _ _ (by simp; omega), World.frozen?_alloc_past _ _ _ (by simp), World.frozen?_alloc_at _ _ _ _ rfl]
    exact ⟨hj, rfl⟩
  clear hW
  refine (element_any (w.heap.size + 1) p n c base cls num len con ind s z ce en W hd hbs p1 p2 hp1 hp2 h1 h2 h3 h4 h5).mono ?_
  rintro e w1 ⟨⟨off, rfl⟩, hb1⟩
  have hB1 := hB.trans (hb1.mono hB.size)
  have hsz1 : w.heap.size < w1.heap.size := by have := hb1.size; omega
  have hC1 : ∀ j v, zeros8[j]? = some v → w1.cell? ⟨w.heap.size, j, none⟩ = some v ∧ w1.frozen? ⟨w.heap.size, j, none⟩ = false := by
    intro j v hj
    have hlt : w.heap.size < W.heap.size := by omega
    rw [hb1.cell (p := ⟨w.heap.size, j, none⟩) hlt, hb1.frozen (p := ⟨w.heap.size, j, none⟩) hlt]
    exact hC j v hj
  obtain ⟨c0, f0⟩ := hC1 0 _ rfl
  obtain ⟨c1, f1⟩ := hC1 1 _ rfl
  obtain ⟨c2, f2⟩ := hC1 2 _ rfl
  obtain ⟨c3, f3⟩ := hC1 3 _ rfl
  obtain ⟨c4, f4⟩ := hC1 4 _ rfl
  obtain ⟨c5, f5⟩ := hC1 5 _ rfl
  obtain ⟨c6, f6⟩ := hC1 6 _ rfl
  obtain ⟨c7, f7⟩ := hC1 7 _ rfl
  clear hC1
  clear hC hd hbs hb1 hB
  unfold eltOf
  go_wp2_with fail
  go_region
  go_wp2
  refine bodyPost_ret (v := .tuple #[eltOf cls num con ind off (.slice p1 (en - s) (en - s)) (.slice p2 (ce - (s + z)) (ce - (s + z))) z, .int .i64 z]) ?_ rfl ⟨⟨_, rfl⟩, ?_⟩
  · simp [results, Try.results13, go_sem, eltOf, hsz1, c0, c1, c2, c3, c4, c5, c6, c7]
  · refine (Below.alloc ?_ ?_ _).drew
    · exact (((((((hB1.setCell (Nat.le_refl _) _).setCell (Nat.le_refl _) _).setCell (Nat.le_refl _) _).setCell (Nat.le_refl _) _).setCell (Nat.le_refl _) _).setCell (Nat.le_refl _) _).setCell (Nat.le_refl _) _).setCell (Nat.le_refl _) _
    · simp; omega
end Go.Proofs.Qxb6604283a
