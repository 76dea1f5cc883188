import Derived.Test.Qxb6604283aB128
import Derived.Deep.DeepCutAuto
import Derived.Deep.RegionHeld3
import Derived.Deep.RegionLawGrows
import Derived.Deep.AppendLies
import Derived.Laws.AppendOwnNone
namespace Go.Proofs.Qxb6604283a
open Go.RowKit

/-- the first octet without its low five bits -/
def fbOf (cls : Nat) (con : Bool) : Nat := cls % 4 * 64 + (if con then 32 else 0)

def TagOf (fb num : Nat) (tg : List Int) : Prop :=
  (num < 31 ∧ tg = [((fb + num : Nat) : Int)]) ∨
  (31 ≤ num ∧ ∃ n, n ≤ 5 ∧ Digs 128 num n ∧ tg = ((fb + 31 : Nat) : Int) :: (ups 128 128 num n (n - 1) ++ [((dg 128 num 0 : Nat) : Int)]))

def LenOf (m : Nat) (lg : List Int) : Prop :=
  (m < 128 ∧ lg = [(m : Int)]) ∨ (128 ≤ m ∧ ∃ s, s ≤ 3 ∧ Digs 256 m s ∧ lg = ((128 + s : Nat) : Int) :: ups 256 0 m s s)

theorem TagOf.short {fb num : Nat} {tg : List Int} (h : TagOf fb num tg) : tg.length ≤ 6 := by
  rcases h with ⟨_, rfl⟩ | ⟨_, n, hn, _, rfl⟩
  · simp
  · simp [ups_length]; omega
theorem LenOf.short {m : Nat} {lg : List Int} (h : LenOf m lg) : lg.length ≤ 4 := by
  rcases h with ⟨_, rfl⟩ | ⟨_, n, hn, _, rfl⟩
  · simp
  · simp [ups_length]; omega

theorem pow_le3 {v k : Nat} (hv : v ≤ 1048576) (hk : k ≤ 3) (h : 0 < v / 256 ^ k) : k ≤ 2 := by
  rcases Nat.lt_or_ge k 3 with h' | h'
  · omega
  · obtain rfl : k = 3 := by omega
    have : v / 256 ^ 3 = 0 := Nat.div_eq_of_lt (by omega)
    omega

theorem cls64_all : ∀ n : Nat, n < 256 → (n : Int) * 64 % 256 = ((fbOf n false : Nat) : Int) := by decide +kernel
theorem cls64c_all : ∀ n : Nat, n < 256 → bits .or .u8 ((n : Int) * 64 % 256) 32 = ((fbOf n true : Nat) : Int) := by decide +kernel
theorem orlow_all : ∀ f : Nat, f < 8 → ∀ n : Nat, n < 32 → bits .or .u8 ((f * 32 : Nat) : Int) (n : Int) = ((f * 32 + n : Nat) : Int) := by decide +kernel
theorem fb_form (cls : Nat) (con : Bool) : ∃ f, f < 8 ∧ fbOf cls con = f * 32 := by
  refine ⟨cls % 4 * 2 + (if con then 1 else 0), ?_, ?_⟩
  · cases con <;> simp <;> omega
  · cases con <;> simp [fbOf] <;> omega
theorem orlow (cls : Nat) (con : Bool) {n : Nat} (hn : n < 32) : bits .or .u8 ((fbOf cls con : Nat) : Int) (n : Int) = ((fbOf cls con + n : Nat) : Int) := by
  obtain ⟨f, hf, e⟩ := fb_form cls con
  rw [e]
  exact orlow_all f hf n hn

theorem own_mono {w : World} {b b' : Nat} {e : TypeId} {size : Nat} {v : Value} {n : Nat} {xs : List Value} (h : w.ownsRow b' e size v n xs) (hb : b ≤ b') : w.ownsRow b e size v n xs := by
  obtain ⟨h1, h2⟩ := h
  refine ⟨h1, ?_⟩
  rcases h2 with h2 | ⟨g, cap, cur, hv, hg, r⟩
  · exact .inl h2
  · exact .inr ⟨g, cap, cur, hv, Nat.le_trans hb hg, r⟩

theorem BytesAt.holds {w : World} {p : Option Addr} {xs : List Int} (h : BytesAt w p xs) : ∀ b, p = some b → ∀ (j : Nat) u, (xs.map (Value.int .u8))[j]? = some u → w.cell? (b.add j) = some u := by
  intro b hb j u hj
  simp at hj
  obtain ⟨y, hy, rfl⟩ := hj
  rcases h with rfl | ⟨b', o, rfl, hc⟩
  · simp at hy
  · obtain rfl := Option.some.inj hb
    have hjl := (List.getElem?_eq_some_iff.1 hy).1
    rw [Addr.add_lit, hc j hjl]
    simp [List.getD, hy]

theorem cell_two_new' (w : World) (o : Obj) (x : Value) (t : TypeId) (N : Nat := w.heap.size + 1) (hN : N = w.heap.size + 1 := by rfl) : ∀ (j : Nat) u, [x][j]? = some u → ((w.alloc o).alloc (.cells #[x] t)).cell? ((⟨N, 0, none⟩ : Addr).add j) = some u := by
  have h := cell_one_new (w.alloc o) x t
  subst hN
  simpa using h

theorem keep_two {w w1 : World} {o X : Obj} {v : Value} {i : Nat} (hg : ((w.alloc o).alloc X).drew.grownBy w1 none) (h : (w.alloc o).cell? ⟨w.heap.size, i, none⟩ = some v) : w1.cell? ⟨w.heap.size, i, none⟩ = some v := by
  have hl : w.heap.size < (w.alloc o).heap.size := by simp
  have hl2 : w.heap.size < ((w.alloc o).alloc X).drew.heap.size := by show w.heap.size < ((w.alloc o).alloc X).heap.size; simp; omega
  rw [World.cell?_of_block (w := ((w.alloc o).alloc X).drew) (hg.block w.heap.size hl2 (by simp))]
  show ((w.alloc o).alloc X).cell? _ = _
  rw [World.cell?_alloc_past _ _ _ hl]
  exact h

/-- WHAT AppendElement LEAVES -/
def ElemPost (w : World) (xs ys : List Int) (cls num : Nat) (con : Bool) (e : Ending) (w' : World) : Prop :=
  ∃ (v' : Value) (tg lg : List Int), e = .returned v' ∧ TagOf (fbOf cls con) num tg ∧ LenOf ys.length lg ∧ w'.ownsRow w.heap.size 5 1 v' (xs ++ (tg ++ lg ++ ys)).length ((xs ++ (tg ++ lg ++ ys)).map (Value.int .u8)) ∧ Below w.heap.size w w'
theorem ElemPost.mk {w w' : World} {xs ys : List Int} {cls num : Nat} {con : Bool} (v' : Value) (tg lg : List Int) (h1 : TagOf (fbOf cls con) num tg) (h2 : LenOf ys.length lg) (h3 : w'.ownsRow w.heap.size 5 1 v' (xs ++ (tg ++ lg ++ ys)).length ((xs ++ (tg ++ lg ++ ys)).map (Value.int .u8))) (h4 : Below w.heap.size w w') : ElemPost w xs ys cls num con (.returned v') w' :=
  ⟨v', tg, lg, rfl, h1, h2, h3, h4⟩

set_option maxRecDepth 100000 in
set_option maxHeartbeats 2000000 in
/-- AppendElement, onto a slice with no room to spare -/
theorem elem_any (p q : Option Addr) (xs ys : List Int) (cls num : Nat) (con : Bool) (d : Nat) (w : World) (hc : cls < 256) (hnum : num < 4294967296)
    (hx : BytesAt w p xs) (hy : BytesAt w q ys) (bx : xs.length ≤ 1048576) (by' : ys.length ≤ 1048576) (hp0 : p = none → xs = []) (hq0 : q = none → ys.length = 0 ∧ d = 0) :
    Calls Try.prog 8 #[.slice p xs.length xs.length, .agg #[.int .u8 (cls : Int), .int .u32 (num : Int)], .bool con, .slice q ys.length d] w fun e w' =>
      ElemPost w xs ys cls num con e w' := by
  obtain ⟨i0, hi, hz0, hz1, hz2⟩ := info_parts Try.info5
  go_enter Try.func8, Try.ntmps8
  go_upto_if 17 with (fail)
  go_cut [9] (fun s wx => s = .int .u8 ((fbOf cls con : Nat) : Int) ∧ w.alloc (.cells #[.int .u8 (cls : Int), .int .u32 (num : Int)] 29) = wx)
  case first =>
    cases con
    · go_wp2_with fail
      go_meet
      case rel => exact ⟨by rw [← cls64_all cls hc], rfl⟩
    · go_wp2_with fail
      go_meet
      case rel => exact ⟨by rw [← cls64c_all cls hc], rfl⟩
  case rest =>
    obtain ⟨rfl, rfl⟩ := hcut
    have hxa := hx.kept ((Below.refl w.heap.size w).alloc (Nat.le_refl _) (.cells #[.int .u8 (cls : Int), .int .u32 (num : Int)] 29))
    have hBa : Below w.heap.size w (w.alloc (.cells #[.int .u8 (cls : Int), .int .u32 (num : Int)] 29)) := (Below.refl _ _).alloc (Nat.le_refl _) _
    generalize hfb : fbOf cls con = fb at *
    go_upto_if 22 with (fail)
    go_cut [0] (fun s0 wx => ∃ tg, TagOf fb num tg ∧ wx.ownsRow w.heap.size 5 1 s0 (xs ++ tg).length ((xs ++ tg).map (Value.int .u8)) ∧ Below w.heap.size w wx)
    case first =>
      by_cases hlow : num < 31
      · have HO : Hid (bits .or .u8 (fb : Int) (num : Int) = ((fb + num : Nat) : Int)) := by rw [← hfb]; exact orlow cls con (by omega)
        have hxb := hxa.kept ((Below.refl _ (w.alloc (.cells #[.int .u8 (cls : Int), .int .u32 (num : Int)] 29))).alloc (Nat.le_refl _) (.cells #[.int .u8 (bits .or .u8 (fb : Int) (num : Int))] 5))
        go_wp2_with (at_builtin; refine wpList_append_grows _ rfl _ _ 22 rfl 5 i0 (.int .u8 0) 1 1 Try.underlying22 hi hz0 hz1 hz2 rfl (by decide) p xs.length xs.length (xs.map (Value.int .u8)) rfl ?c1 (by simp) hxb.holds ⟨w.heap.size + 1, 0, none⟩ 1 1 [.int .u8 (bits .or .u8 (fb : Int) (num : Int))] rfl rfl ?c2 (ints_oneCell .u8 [bits .or .u8 (fb : Int) (num : Int)]) (by omega) ?c3 ?c4 ?_)
        case c1 => intro h; simp [hp0 h]
        case c2 => exact cell_two_new' w _ _ 5
        case c3 => unfold maxLen; omega
        case c4 => omega
        intro v' w1 hown' hgr
        have hown2 : w1.ownsRow w.heap.size 5 1 v' (xs ++ [((fb + num : Nat) : Int)]).length ((xs ++ [((fb + num : Nat) : Int)]).map (Value.int .u8)) := by
          rw [HO.out] at hown'
          exact own_snoc (own_mono hown' (by omega))
        have hbel2 : Below w.heap.size w w1 := (hBa.alloc (by simp) _).grown hgr (by simp; omega) (fun j hj => by cases hj)
        have HT : Hid (TagOf fb num [((fb + num : Nat) : Int)]) := .inl ⟨hlow, rfl⟩
        clear hown' hgr
        go_wp2_with fail
        go_meet
        case rel => exact ⟨_, HT.out, hown2, hbel2⟩
      · have HO : Hid (bits .or .u8 (fb : Int) 31 = ((fb + 31 : Nat) : Int)) := by rw [← hfb]; exact orlow cls con (n := 31) (by omega)
        have hxb := hxa.kept ((Below.refl _ (w.alloc (.cells #[.int .u8 (cls : Int), .int .u32 (num : Int)] 29))).alloc (Nat.le_refl _) (.cells #[.int .u8 (bits .or .u8 (fb : Int) 31)] 5))
        have hcn : (w.alloc (.cells #[.int .u8 (cls : Int), .int .u32 (num : Int)] 29)).cell? ⟨w.heap.size, 1, none⟩ = some (.int .u32 (num : Int)) := by
          rw [World.cell?_alloc_at _ _ _ _ rfl]; rfl
        have hwr : IntKind.u64.wrap (num : Int) = (num : Int) := by rw [IntKind.wrap_u64]; omega
        go_wp2_with fail
        go_region_held3 (fun w' => w'.cell? ⟨w.heap.size, 1, none⟩ = some (.int .u32 (num : Int))) (first | assumption | go_keep)
          ((first | (go_at_call 14; refine (b128_any (w.heap.size + 1) v' (xs ++ [((fb + 31 : Nat) : Int)]) num w1 hnum (by rw [HO.out] at hown'; exact own_snoc (own_mono hown' (by simp))) (by have := hgr.size; simp at this; omega) (by simp; omega)).mono ?_; rintro e w2 ⟨v2, n2, rfl, hn2, hD2, hown2, hb2⟩; have hS2 := (hb2.cell (p := ⟨w.heap.size, 1, none⟩) (Nat.lt_succ_self _)).trans hS1) | (refine step_append_grows (by rfl) _ _ 22 (by rfl) 5 i0 (.int .u8 0) 1 1 Try.underlying22 hi hz0 hz1 hz2 rfl (by decide) p xs.length xs.length (xs.map (Value.int .u8)) (by rfl) (fun h => by simp [hp0 h]) (by simp) (by exact hxb.holds) ⟨w.heap.size + 1, 0, none⟩ 1 1 [.int .u8 (bits .or .u8 (fb : Int) 31)] (by rfl) (by rfl) (by exact cell_two_new' w _ _ 5) (ints_oneCell .u8 [bits .or .u8 (fb : Int) 31]) (by omega) (by unfold maxLen; omega) (by omega) ?_; intro v' w1 hown' hgr; have hS1 := keep_two hgr hcn)))
        have hown3 : w2.ownsRow w.heap.size 5 1 v2 (xs ++ (((fb + 31 : Nat) : Int) :: (ups 128 128 num n2 (n2 - 1) ++ [((dg 128 num 0 : Nat) : Int)]))).length ((xs ++ (((fb + 31 : Nat) : Int) :: (ups 128 128 num n2 (n2 - 1) ++ [((dg 128 num 0 : Nat) : Int)]))).map (Value.int .u8)) := by
          have h := own_mono hown2 (Nat.le_succ w.heap.size)
          have e : xs ++ [((fb + 31 : Nat) : Int)] ++ ups 128 128 num n2 (n2 - 1) ++ [((dg 128 num 0 : Nat) : Int)] = xs ++ (((fb + 31 : Nat) : Int) :: (ups 128 128 num n2 (n2 - 1) ++ [((dg 128 num 0 : Nat) : Int)])) := by simp
          simp only [e] at h
          exact h
        have hbel2 : Below w.heap.size w w2 := ((hBa.alloc (by simp) _).drew.grown hgr (by show w.heap.size ≤ _; simp; omega) (fun j hj => by cases hj)).trans (hb2.mono (Nat.le_succ _))
        have HT : Hid (TagOf fb num (((fb + 31 : Nat) : Int) :: (ups 128 128 num n2 (n2 - 1) ++ [((dg 128 num 0 : Nat) : Int)]))) := .inr ⟨by omega, n2, hn2, hD2, rfl⟩
        clear hown2 hown' hgr hb2
        go_wp2_with fail
        go_meet
        case rel => exact ⟨_, HT.out, hown3, hbel2⟩
    case rest =>
      obtain ⟨tg, hT, hown, hbel⟩ := hcut
      have hTs := hT.short
      have HT : Hid (TagOf fb num tg) := hT
      have hyw := fun (w' : World) (hb : Below w.heap.size w w') => hy.kept hb
      clear hT hxa hBa
      have hN : (xs ++ tg).length ≤ 1048590 := by rw [List.length_append]; omega
      generalize hzs : xs ++ tg = zs at *
      have HZ : Hid (xs ++ tg = zs) := hzs
      have HF : Hid (fbOf cls con = fb) := hfb
      clear hzs hfb
      go_upto_if 43 with (fail)
      go_cut [0] (fun s0 wx => ∃ lg, LenOf ys.length lg ∧ wx.ownsRow w.heap.size 5 1 s0 (zs ++ lg).length ((zs ++ lg).map (Value.int .u8)) ∧ Below w.heap.size w wx)
      case first =>
        have hws := hbel.size
        generalize hm : ys.length = m at *
        clear hm
        by_cases hlow : m < 128
        · go_wp2_with (at_builtin; refine wpList_append_own _ rfl _ _ 22 rfl w.heap.size 5 i0 (.int .u8 0) 1 1 Try.underlying22 hi hz0 hz1 hz2 rfl (by decide) _ _ _ rfl (hown.alloc _) ⟨wc.heap.size, 0, none⟩ 1 1 [.int .u8 (m : Int)] rfl rfl (cell_one_new _ _ _) (ints_oneCell .u8 [(m : Int)]) ?c3 ?c4 ?c5 ?_)
          case c3 => unfold maxLen; omega
          case c4 => omega
          case c5 => simp; omega
          intro v' w1 hown' hgr _
          have hown2 := own_snoc hown'
          have hbel2 : Below w.heap.size w w1 := ((hbel.alloc hws _).grown hgr (by simp; omega) (fun j hj => ownBlock_ge hown hj))
          have HL : Hid (LenOf m [(m : Int)]) := .inl ⟨hlow, rfl⟩
          clear hown' hgr
          go_wp2_with fail
          go_meet
          case rel => exact ⟨_, HL.out, hown2, hbel2⟩
        · go_wp2_with fail
          go_loop [11, 12] (fun n t => ∃ k x : Nat, k ≤ 3 ∧ n = .int .i64 k ∧ t = .int .i64 x ∧ Hid (x = m / 256 ^ k) ∧ Hid (k = 0 ∨ 256 ^ (k - 1) ≤ m)) (fun _ t => (intOf t).toNat)
          case atStart => exact ⟨0, m, by omega, rfl, rfl, by simp [Hid], .inl rfl⟩
          case round =>
            obtain ⟨k, x, h3, rfl, rfl, HX, HK⟩ := hrel
            by_cases hx0 : 0 < x
            · have hm' : 0 < m / 256 ^ k := HX.out ▸ hx0
              have h2 := pow_le3 by' h3 hm'
              have HX' : Hid (x / 256 = m / 256 ^ (k + 1)) := by show _ = _; rw [HX.out, Nat.div_div_eq_div_mul, Nat.pow_succ]
              have HK' : Hid (k + 1 = 0 ∨ 256 ^ (k + 1 - 1) ≤ m) := .inr (by
                rw [Nat.add_sub_cancel]
                exact (Nat.div_pos_iff.1 hm').2)
              clear hm' HX HK
              go_wp2_with fail
              go_round
              case rel => exact ⟨k + 1, x / 256, by omega, by go_num, by go_num, HX', HK'⟩
              case measure => simp [intOf]; omega
            · obtain rfl : x = 0 := by omega
              have hk1 : 1 ≤ k := by
                rcases Nat.eq_zero_or_pos k with rfl | h
                · have := HX.out; simp at this; omega
                · exact h
              have hKK : k = 1 ∨ 256 ^ (k - 1) ≤ m := .inr (HK.out.resolve_left (by omega))
              have HD : Hid (Digs 256 m k) := ⟨hk1, (Nat.div_eq_zero_iff_lt (Nat.pow_pos (by omega))).1 HX.out.symm, hKK⟩
              clear hKK
              clear hx0 HX HK
              go_wp2_with (at_builtin; refine wpList_append_own _ rfl _ _ 22 rfl w.heap.size 5 i0 (.int .u8 0) 1 1 Try.underlying22 hi hz0 hz1 hz2 rfl (by decide) _ _ _ rfl (hown.alloc _) ⟨wc.heap.size, 0, none⟩ 1 1 [.int .u8 (128 + (k : Int))] rfl rfl (cell_one_new _ _ _) (ints_oneCell .u8 [128 + (k : Int)]) ?c3 ?c4 ?c5 ?_)
              case c3 => unfold maxLen; omega
              case c4 => omega
              case c5 => first | omega | (simp; omega)
              intro v' w1 hown' hgr _
              rw [show (128 + (k : Int)) = ((128 + k : Nat) : Int) from by omega] at hown'
              have hown2 := own_snoc hown'
              have hbel2 : Below w.heap.size w w1 := ((hbel.alloc hws _).grown hgr (by simp; omega) (fun j hj => ownBlock_ge hown hj))
              clear hown' hgr
              have hN2 : (zs ++ [((128 + k : Nat) : Int)]).length ≤ 1048600 := by rw [List.length_append]; simp; omega
              generalize hzz : zs ++ [((128 + k : Nat) : Int)] = zz at *
              have HZZ : Hid (zs ++ [((128 + k : Nat) : Int)] = zz) := hzz
              clear hzz
              go_wp2_with fail
              go_loopw [0, 13] (fun s0 t wr => ∃ j : Nat, j ≤ k ∧ t = .int .i64 ((k : Int) - 1 - (j : Int)) ∧ wr.ownsRow w.heap.size 5 1 s0 (zz ++ ups 256 0 m k j).length ((zz ++ ups 256 0 m k j).map (Value.int .u8)) ∧ Below w.heap.size w wr) (fun _ t _ => (intOf t + 1).toNat)
              case atStart => exact ⟨0, by omega, by go_num, by simpa [ups] using hown2, hbel2⟩
              case round =>
                obtain ⟨j, hj, rfl, hownr, hbr⟩ := hrel
                have hwr := hbr.size
                clear hown2 hbel2
                by_cases hlt : j < k
                · obtain ⟨t, ht⟩ : ∃ t, k - 1 - j = t := ⟨_, rfl⟩
                  have HTT : Hid (k - 1 - j = t) := ht
                  rw [show ((k : Int) - 1 - (j : Int)) = (t : Int) from by omega]
                  have ht2 : t ≤ 2 := by omega
                  clear ht
                  have hN3 : (zz ++ ups 256 0 m k j).length ≤ 1048610 := by rw [List.length_append, ups_length]; omega
                  generalize hz4 : zz ++ ups 256 0 m k j = z4 at *
                  have HZ4 : Hid (zz ++ ups 256 0 m k j = z4) := hz4
                  clear hz4
                  go_wp2_with (at_builtin; refine wpList_append_own _ rfl _ _ 22 rfl w.heap.size 5 i0 (.int .u8 0) 1 1 Try.underlying22 hi hz0 hz1 hz2 rfl (by decide) _ _ _ rfl (hownr.alloc _) ⟨wr.heap.size, 0, none⟩ 1 1 [.int .u8 ((m : Int) / 2 ^ (8 * t) % 256)] rfl rfl (cell_one_new _ _ _) (ints_oneCell .u8 [(m : Int) / 2 ^ (8 * t) % 256]) ?c3 ?c4 ?c5 ?_)
                  case c3 => unfold maxLen; omega
                  case c4 => omega
                  case c5 => simp; omega
                  intro v2 w2 hown' hgr _
                  rw [shr8] at hown'
                  have hown3 : w2.ownsRow w.heap.size 5 1 v2 (zz ++ ups 256 0 m k (j + 1)).length ((zz ++ ups 256 0 m k (j + 1)).map (Value.int .u8)) := by
                    rw [ups, HTT.out, ← List.append_assoc, HZ4.out, Nat.zero_add]
                    exact own_snoc hown'
                  have hbel3 : Below w.heap.size w w2 := ((hbr.alloc hwr _).grown hgr (by simp; omega) (fun j hj => ownBlock_ge hownr hj))
                  clear hown' hgr
                  go_wp2_with fail
                  go_roundw
                  case rel => exact ⟨j + 1, by omega, by have := HTT.out; go_num, hown3, hbel3⟩
                  case measure => simp [intOf]
                · obtain rfl : j = k := by omega
                  rw [show ((j : Int) - 1 - (j : Int)) = -1 from by omega]
                  have HL : Hid (LenOf m (((128 + j : Nat) : Int) :: ups 256 0 m j j)) := .inr ⟨by omega, j, h3, HD.out, rfl⟩
                  have hown3 : wr.ownsRow w.heap.size 5 1 u0 (zs ++ (((128 + j : Nat) : Int) :: ups 256 0 m j j)).length ((zs ++ (((128 + j : Nat) : Int) :: ups 256 0 m j j)).map (Value.int .u8)) := by
                    have h := hownr
                    rw [← HZZ.out, List.append_assoc] at h
                    exact h
                  go_wp2_with fail
                  go_meet
                  case rel => exact ⟨_, HL.out, hown3, hbr⟩
      case rest =>
        obtain ⟨lg, hL, hownl, hbl⟩ := hcut
        have hLs := hL.short
        have HL : Hid (LenOf ys.length lg) := hL
        have hyl := hyw _ hbl
        have hwl := hbl.size
        have hN5 : (zs ++ lg).length ≤ 1048620 := by rw [List.length_append]; omega
        generalize hz5 : zs ++ lg = z5 at *
        have HZ5 : Hid (zs ++ lg = z5) := hz5
        clear hz5 hL hyw hown hbel
        have HE : Hid (∀ l : List Int, z5 ++ l = xs ++ (tg ++ lg ++ l)) := fun l => by rw [← HZ5.out, ← HZ.out]; simp
        cases q with
        | none =>
          obtain ⟨hy0, rfl⟩ := hq0 rfl
          have hy0' : ys = [] := List.eq_nil_of_length_eq_zero hy0
          subst hy0'
          go_wp2_with (at_builtin; refine wpList_append_own_none rfl _ _ 22 rfl w.heap.size 5 i0 1 Try.underlying22 hi _ _ _ rfl hownl rfl ?_)
          go_ret
          refine ElemPost.mk _ tg lg (HF.out ▸ HT.out) HL.out ?_ hbl
          rw [← HE.out, List.append_nil]
          exact hownl
        | some ad =>
          have hh := hyl.holds ad rfl
          go_wp2_with (at_builtin; refine wpList_append_own _ rfl _ _ 22 rfl w.heap.size 5 i0 (.int .u8 0) 1 1 Try.underlying22 hi hz0 hz1 hz2 rfl (by decide) _ _ _ rfl hownl ad ys.length d (ys.map (Value.int .u8)) rfl (by simp) hh (ints_oneCell .u8 ys) ?c3 ?c4 ?c5 ?_)
          case c3 => unfold maxLen; omega
          case c4 => omega
          case c5 => omega
          intro v' w1 hown' hgr _
          have hbel2 : Below w.heap.size w w1 := hbl.grown hgr hwl (fun j hj => ownBlock_ge hownl hj)
          go_wp2_with fail
          go_ret
          refine ElemPost.mk v' tg lg (HF.out ▸ HT.out) HL.out ?_ hbel2
          rw [← HE.out, List.length_append, List.map_append]
          exact hown'
end Go.Proofs.Qxb6604283a
