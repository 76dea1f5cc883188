import Derived.Test.Qxb6604185aSet2
namespace Go.Proofs.Qxb6604185a
open Go.RowKit Go.Maps

/-- THE SET HOLDS JUST THESE NAMES (a list, maybe with repeats). -/
def SetIs (w0 w : World) (b : Nat) (known : List (List Int)) : Prop := ∃ ls, (SetFew w0 w ls ∨ SetMany w0 w b ls) ∧ ∀ ys, ys ∈ ls ↔ ys ∈ known

theorem SetMany.mono {w0 w : World} {b b' : Nat} {ls : List (List Int)} (h : SetMany w0 w b ls) (hb : b ≤ b') : SetMany w0 w b' ls := by
  obtain ⟨h1, F, M, h2, h3, h4, n, D, h5, h6, h7⟩ := h
  exact ⟨h1, F, M, h2, h3, h4, n, D, Nat.le_trans h5 hb, h6, h7⟩

theorem SetIs.below {w0 w : World} {b : Nat} {known : List (List Int)} (h : SetIs w0 w b known) : Below w0.heap.size w0 w := by
  obtain ⟨ls, h | h, _⟩ := h
  · exact h.below
  · exact h.below

theorem SetIs.drewN {w0 w : World} {b : Nat} {known : List (List Int)} (h : SetIs w0 w b known) (n : Nat) : SetIs w0 (w.drewN n) b known := by
  obtain ⟨ls, h | h, hk⟩ := h
  · exact ⟨ls, .inl (h.drewN n), hk⟩
  · exact ⟨ls, .inr ⟨below_drewN h.below n, h.cells⟩, hk⟩

theorem SetIs.congr {w0 w : World} {b : Nat} {known known' : List (List Int)} (h : SetIs w0 w b known) (hk : ∀ ys, ys ∈ known ↔ ys ∈ known') : SetIs w0 w b known' := by
  obtain ⟨ls, h, hk'⟩ := h
  exact ⟨ls, h, fun ys => (hk' ys).trans (hk ys)⟩

theorem SetIs.start (w0 : World) : SetIs w0 (w0.alloc (.cells #[.slice none 0 0, .slice none 0 0, .slice none 0 0, .slice none 0 0, .slice none 0 0, .slice none 0 0, .slice none 0 0, .slice none 0 0, .int .i64 0, .map none] 37)) 9 [] := by
  refine ⟨[], .inl ⟨(Below.refl _ _).alloc (Nat.le_refl _) _, by simp, by simp, List.replicate 8 (.slice none 0 0), by simp, ?_, by simp⟩, by simp⟩
  show (w0.heap.push _)[w0.heap.size]? = _
  simp [setCells, List.replicate]

/-- (*nameSet).add -/
theorem add_any (w0 w : World) (b : Nat) (known : List (List Int)) (p : Option Addr) (xs : List Int) (c : Nat) (h : SetIs w0 w b known) (hp : BytesAt w0 p xs) (hx : Bytey xs) (hl : xs.length ≤ 1048576) (h9 : 9 ≤ b) (hb : b < maxLen) :
    Calls Try.prog 20 #[.pointer (some ⟨w0.heap.size, 0, none⟩), .slice p xs.length c] w fun e w' => e = .returned (.bool !(decide (xs ∈ known))) ∧ SetIs w0 w' (b + 1) (known ++ [xs]) := by
  obtain ⟨ls, h | h, hk⟩ := h
  · by_cases hin : xs ∈ ls
    · refine (add_few_in w0 w ls p xs c h hp hx hin).mono ?_
      rintro e w' ⟨rfl, h'⟩
      have hin' := (hk xs).1 hin
      refine ⟨by simp [hin'], ls, .inl h', fun ys => ?_⟩
      rw [hk]
      simp only [List.mem_append, List.mem_singleton]
      exact ⟨.inl, fun h => h.elim id (fun e => e ▸ hin')⟩
    · have hin' : xs ∉ known := fun h => hin ((hk xs).2 h)
      have hmem : ∀ ys, ys ∈ ls ++ [xs] ↔ ys ∈ known ++ [xs] := fun ys => by simp [hk]
      by_cases h8 : ls.length < 8
      · refine (add_few_new w0 w ls p xs c h hp hx hl hin h8).mono ?_
        rintro e w' ⟨rfl, h'⟩
        exact ⟨by simp [hin'], _, .inl h', hmem⟩
      · refine (add_few_full w0 w ls p xs c h hp hx hl hin (by have := h.le; omega)).mono ?_
        rintro e w' ⟨rfl, h'⟩
        exact ⟨by simp [hin'], _, .inr (h'.mono (by omega)), hmem⟩
  · refine (add_many w0 w b ls p xs c h hp hx hl hb).mono ?_
    rintro e w' ⟨rfl, ls', h', hk'⟩
    refine ⟨by simp [hk], ls', .inr h', fun ys => ?_⟩
    rw [hk', hk]
    simp

/-- ZZNameSetAdd -/
theorem zzAdd_any (w0 w : World) (b : Nat) (known : List (List Int)) (p : Option Addr) (xs : List Int) (c : Nat) (h : SetIs w0 w b known) (hp : BytesAt w0 p xs) (hx : Bytey xs) (hl : xs.length ≤ 1048576) (h9 : 9 ≤ b) (hb : b < maxLen) :
    Calls Try.prog 14 #[.pointer (some ⟨w0.heap.size, 0, none⟩), .slice p xs.length c] w fun e w' => e = .returned (.bool !(decide (xs ∈ known))) ∧ SetIs w0 w' (b + 1) (known ++ [xs]) := by
  go_enter Try.func14, Try.ntmps14
  go_wp2_with fail
  refine (add_any w0 w b known p xs c h hp hx hl h9 hb).mono ?_
  rintro e w' ⟨rfl, h'⟩
  go_wp2
  go_ret
  exact ⟨rfl, h'⟩

end Go.Proofs.Qxb6604185a
