import Derived.Test.Qxb6604283aDec
namespace Go.Proofs.Qxb6604283a
open Go.RowKit

/-- behind r rounds of the tag's loop -/
def RelTag (n num g : Nat) (s12 s13 s14 : Value) : Prop :=
  ∃ r x : Nat, r < n ∧ g = n - r ∧ s12 = .int .i64 ((1 + r : Nat) : Int) ∧ s13 = .int .u64 (x : Int) ∧ s14 = .int .i64 (r : Int) ∧ x < 4294967296 ∧ x = num / 128 ^ (n - r)

/-- behind j rounds of the length's loop -/
def RelLen (sz m lt g : Nat) (s12 s17 s19 : Value) : Prop :=
  ∃ j x : Nat, j ≤ sz ∧ g = sz - j ∧ s12 = .int .i64 ((lt + 1 + j : Nat) : Int) ∧ s17 = .int .u64 (x : Int) ∧ s19 = .int .i64 (j : Int) ∧ x < 4294967296 ∧ x = m / 256 ^ (sz - j)

set_option maxRecDepth 100000 in
set_option maxHeartbeats 4000000 in
/-- zzBerB1Decodes, on what AppendElement has written -/
theorem dec_any (b o : Nat) (q : Option Addr) (tg lg ys : List Int) (ce d cls num : Nat) (con : Bool) (w : World) (hnum : num < 4294967296)
    (he : ∀ (i : Nat) x, (tg ++ lg ++ ys)[i]? = some x → w.cell? ⟨b, o + i, none⟩ = some (.int .u8 x)) (hy : BytesAt w q ys) (bys : ys.length ≤ 1048576)
    (hT : TagOf (fbOf cls con) num tg) (hL : LenOf ys.length lg) :
    Calls Try.prog 9 #[.slice (some ⟨b, o, none⟩) (tg ++ lg ++ ys).length ce, .int .u8 ((cls % 4 : Nat) : Int), .int .u32 (num : Int), .bool con, .slice q ys.length d] w fun e w' => e = .returned (.bool true) ∧ ∃ n, w' = w.drewN n := by
  have hTs := hT.short
  have hLs := hL.short
  have hlen : (tg ++ lg ++ ys).length = tg.length + lg.length + ys.length := by simp; omega
  obtain ⟨low, hlow, t0, ht0⟩ : ∃ low : Nat, low < 32 ∧ ∃ rest, tg = ((fbOf cls con + low : Nat) : Int) :: rest := by
    rcases hT with ⟨h, rfl⟩ | ⟨h, n, hn, hD, rfl⟩
    · exact ⟨num, by omega, [], rfl⟩
    · exact ⟨31, by omega, _, rfl⟩
  have htl : 1 ≤ tg.length := by rw [ht0]; simp
  have hll : 1 ≤ lg.length := by rcases hL with ⟨_, rfl⟩ | ⟨_, s, _, _, rfl⟩ <;> simp
  have h0 : w.cell? ⟨b, o, none⟩ = some (.int .u8 ((fbOf cls con + low : Nat) : Int)) := by
    have := he 0 ((fbOf cls con + low : Nat) : Int) (by rw [ht0]; rfl)
    simpa using this
  have e31 := and31 cls con hlow
  have e32 := and32 cls con hlow
  have e64 := id64 cls con hlow
  have E32 : Hid (bits .and .u8 ((fbOf cls con + low : Nat) : Int) 32 = (if con then 32 else 0)) := e32
  clear e32
  have HT : Hid (TagOf (fbOf cls con) num tg) := hT
  have HE : Hid (∀ (i : Nat) x, (tg ++ lg ++ ys)[i]? = some x → w.cell? ⟨b, o + i, none⟩ = some (.int .u8 x)) := he
  have HL : Hid (LenOf ys.length lg) := hL
  have H0 : Hid (∃ rest, tg = ((fbOf cls con + low : Nat) : Int) :: rest) := ⟨t0, ht0⟩
  rw [hlen]
  have hid : fbOf cls con + low < 256 := by
    obtain ⟨f, hf, e⟩ := fb_form cls con
    omega
  generalize hidd : fbOf cls con + low = id at *
  have HID : Hid (fbOf cls con + low = id) := hidd
  clear hT he hL ht0 hlen hidd
  generalize hLT : tg.length = lt at *
  have HLT : Hid (tg.length = lt) := hLT
  generalize hLL : lg.length = ll at *
  have HLL : Hid (lg.length = ll) := hLL
  generalize hLY : ys.length = m at *
  have HLY : Hid (ys.length = m) := hLY
  clear hLT hLL hLY
  have hb : (!((bits .and .u8 (id : Int) 32 != 0) == con)) = false := by rw [E32.out]; cases con <;> rfl
  clear E32
  go_enter Try.func9, Try.ntmps9
  go_upto_if 38 with (fail)
  go_cut [12] (fun s12 wx => s12 = .int .i64 (lt : Int) ∧ w = wx)
  case first =>
    as_aux_lemma =>
      rcases HT.out with ⟨h31, htg⟩ | ⟨h31, n, hn5, hD, htg⟩
      · have HTG : Hid (tg = [((fbOf cls con + num : Nat) : Int)]) := htg
        have hlt1 : lt = 1 := by rw [← HLT.out, htg]; rfl
        have hln : low = num := by
          obtain ⟨r, hr⟩ := H0.out
          rw [htg] at hr
          have := HID.out
          simp at hr
          omega
        subst hln
        subst hlt1
        clear htg
        go_wp2_with fail
        go_meet
        case rel => exact ⟨rfl, rfl⟩
      · have HTG : Hid (tg = ((fbOf cls con + 31 : Nat) : Int) :: grps num n) := htg
        have h1n : 1 ≤ n := hD.1
        have hltn : lt = n + 1 := by rw [← HLT.out, HTG.out, List.length_cons, grps_length h1n]
        have hln : low = 31 := by
          obtain ⟨r, hr⟩ := H0.out
          rw [htg] at hr
          have := HID.out
          simp at hr
          omega
        subst hln
        subst hltn
        have hgr : ∀ r, r < n → ∀ x, (grps num n)[r]? = some x → w.cell? ⟨b, o + (1 + r), none⟩ = some (.int .u8 x) := fun r hr x hx => by
          refine HE.out (1 + r) x ?_
          rw [HTG.out, Nat.add_comm 1 r]
          simp only [List.cons_append, List.getElem?_cons_succ]
          rw [List.append_assoc, List.getElem?_append_left (by rw [grps_length h1n]; exact hr)]
          exact hx
        have HD : Hid (Digs 128 num n) := hD
        clear htg hD
        go_wp2_with fail
        go_loopg [12, 13, 14] n (fun g s12 s13 s14 wx => RelTag n num g s12 s13 s14 ∧ w = wx)
        case atStart => exact ⟨⟨0, 0, by omega, by omega, rfl, rfl, rfl, by omega, by rw [Nat.sub_zero, Nat.div_eq_of_lt HD.out.2.1]⟩, rfl⟩
        case round =>
          obtain ⟨⟨r, x, hr, hgk, rfl, rfl, rfl, hx, hX⟩, rfl⟩ := hrel
          have HX : Hid (x = num / 128 ^ (n - r)) := hX
          clear hX
          have hd := dg_lt 128 num (n - 1 - r) (by omega)
          have HS : Hid (x * 128 + dg 128 num (n - 1 - r) = num / 128 ^ (n - 1 - r)) := by
            show _ = _
            rw [HX.out, show n - r = (n - 1 - r) + 1 from by omega]
            exact dg_step 128 num (n - 1 - r)
          have htop : r = 0 → n ≠ 1 → dg 128 num (n - 1 - r) ≠ 0 := fun h0 h1 => by
            subst h0
            exact dg_top (by omega) HD.out h1
          by_cases hlast : r < n - 1
          · have h1 := hgr r hr _ (grps_mid hlast)
            have eor := or7 x (dg 128 num (n - 1 - r)) hd hx
            have hxn : x * 128 + dg 128 num (n - 1 - r) < 4294967296 := by rw [HS.out]; exact Nat.lt_of_le_of_lt (Nat.div_le_self _ _) hnum
            have hi1 : ((1 + r : Nat) : Int) < ((n + 1 + ll + m : Nat) : Int) := by omega
            have HS' : Hid (x * 128 + dg 128 num (n - 1 - r) = num / 128 ^ (n - (r + 1))) := by
              have h := HS.out
              rw [show n - 1 - r = n - (r + 1) from by omega] at h ⊢
              exact h
            generalize dg 128 num (n - 1 - r) = dd at *
            have e127 : bits .and .u8 ((128 + dd : Nat) : Int) 127 = (dd : Int) := by rw [and127 _ (by omega) (by omega)]; omega
            have e128 : bits .and .u8 ((128 + dd : Nat) : Int) 128 = 128 := by rw [and128_all _ (by omega), if_neg (by omega)]
            have hcz : r = 0 → (((128 + dd : Nat) : Int) == 128) = false := fun h0 => by
              have := htop h0 (by omega)
              rw [beq_eq_false_iff_ne]; omega
            generalize 128 + dd = cv at *
            clear hgr HX HS htop
            by_cases hr0 : r = 0
            · have hcz' := hcz hr0
              have hr0' : ((r : Int) == 0) = true := by rw [beq_iff_eq]; omega
              clear hcz hr0
              go_wp2_with fail
              go_roundg (n - (r + 1))
              case measure => omega
              case rel => exact ⟨⟨r + 1, _, by omega, rfl, by go_num, rfl, by go_num, hxn, HS'.out⟩, rfl⟩
            · have hr0' : ((r : Int) == 0) = false := by rw [beq_eq_false_iff_ne]; omega
              clear hcz hr0
              go_wp2_with fail
              go_roundg (n - (r + 1))
              case measure => omega
              case rel => exact ⟨⟨r + 1, _, by omega, rfl, by go_num, rfl, by go_num, hxn, HS'.out⟩, rfl⟩
          · have hrn : r = n - 1 := by omega
            have h1 := hgr r hr _ (hrn ▸ grps_last)
            have hz : n - 1 - r = 0 := by omega
            rw [hz] at HS htop hd
            have eor := or7 x (dg 128 num 0) hd hx
            have hxn : x * 128 + dg 128 num 0 = num := by rw [HS.out]; simp
            have HXN : Hid (x * 128 + dg 128 num 0 = num) := hxn
            have hi1 : ((1 + r : Nat) : Int) < ((n + 1 + ll + m : Nat) : Int) := by omega
            have HRN : Hid (n = r + 1) := by show n = r + 1; omega
            clear hrn hz hxn
            generalize dg 128 num 0 = dd at *
            have e127 : bits .and .u8 (dd : Int) 127 = (dd : Int) := by rw [and127 _ (by omega) (by omega)]; omega
            have e128 : bits .and .u8 (dd : Int) 128 = 0 := by rw [and128_all _ (by omega), if_pos (by omega)]
            have hcz : ((dd : Int) == 128) = false := by rw [beq_eq_false_iff_ne]; omega
            rw [HXN.out] at eor
            clear hgr HX HS htop
            have hwr : IntKind.u64.wrap (num : Int) = (num : Int) := by rw [IntKind.wrap_u64]; omega
            cases hr0' : ((r : Int) == 0)
            · go_wp2_with fail
              go_meet
              case rel => exact ⟨by have := HRN.out; go_num, rfl⟩
            · go_wp2_with fail
              go_meet
              case rel => exact ⟨by have := HRN.out; go_num, rfl⟩
  case rest =>
    obtain ⟨rfl, rfl⟩ := hcut
    have hgl : ∀ (j : Nat) x, lg[j]? = some x → w.cell? ⟨b, o + (lt + j), none⟩ = some (.int .u8 x) := fun j x hx => by
      refine HE.out (lt + j) x ?_
      have hjl := (List.getElem?_eq_some_iff.1 hx).1
      rw [List.append_assoc, List.getElem?_append_right (by rw [HLT.out]; omega), HLT.out, Nat.add_sub_cancel_left, List.getElem?_append_left hjl]
      exact hx
    have hgy : ∀ (j : Nat) x, ys[j]? = some x → w.cell? ⟨b, o + (lt + ll + j), none⟩ = some (.int .u8 x) := fun j x hx => by
      refine HE.out (lt + ll + j) x ?_
      rw [List.getElem?_append_right (by rw [List.length_append, HLT.out, HLL.out]; omega), List.length_append, HLT.out, HLL.out, Nat.add_sub_cancel_left]
      exact hx
    clear e64 e31 hb h0
    have hwm : IntKind.u64.wrap (m : Int) = (m : Int) := by rw [IntKind.wrap_u64]; omega
    obtain ⟨l0, hl0, hl256⟩ : ∃ l0 : Nat, lg[0]? = some (l0 : Int) ∧ l0 < 256 := by
      rcases HL.out with ⟨hlow, hlg⟩ | ⟨hhi, sz, hs3, hD, hlg⟩
      · exact ⟨m, by rw [hlg]; rfl, by omega⟩
      · exact ⟨128 + sz, by rw [hlg]; rfl, by omega⟩
    have h1 := hgl 0 _ hl0
    rw [Nat.add_zero] at h1
    have HL0 : Hid (lg[0]? = some (l0 : Int)) := hl0
    have HGL : Hid (∀ (j : Nat) x, lg[j]? = some x → w.cell? ⟨b, o + (lt + j), none⟩ = some (.int .u8 x)) := hgl
    have HGY : Hid (∀ (j : Nat) x, ys[j]? = some x → w.cell? ⟨b, o + (lt + ll + j), none⟩ = some (.int .u8 x)) := hgy
    have hi1 : (lt : Int) < ((lt + ll + m : Nat) : Int) := by omega
    clear hl0 hgl hgy
    go_upto_if 92 with (fail)
    go_cut [12, 17] (fun s12 s17 wx => s12 = .int .i64 ((lt + ll : Nat) : Int) ∧ s17 = .int .u64 (m : Int) ∧ w = wx)
    case first =>
      as_aux_lemma =>
        rcases HL.out with ⟨hlow, hlg⟩ | ⟨hhi, sz, hs3, hD, hlg⟩
        · have hll1 : ll = 1 := by rw [← HLL.out, hlg]; rfl
          have hlm : l0 = m := by
            have h := HL0.out
            rw [hlg] at h
            simp at h
            omega
          subst hll1
          subst hlm
          clear hlg
          go_wp2_with fail
          go_meet
          case rel => exact ⟨by go_num, rfl, rfl⟩
        · have hlls : ll = sz + 1 := by rw [← HLL.out, hlg]; simp [ups_length]
          have hlm : l0 = 128 + sz := by
            have h := HL0.out
            rw [hlg] at h
            simp at h
            omega
          have hgd : ∀ j, j < sz → w.cell? ⟨b, o + (lt + 1 + j), none⟩ = some (.int .u8 ((dg 256 m (sz - 1 - j) : Nat) : Int)) := fun j hj => by
            have h := HGL.out (1 + j) ((dg 256 m (sz - 1 - j) : Nat) : Int) (by
              rw [hlg, Nat.add_comm 1 j, List.getElem?_cons_succ, ups_get 256 0 m sz sz j hj, Nat.zero_add])
            rw [← Nat.add_assoc lt 1 j] at h
            exact h
          have hs1 : 1 ≤ sz := hD.1
          have hd0 := hgd 0 hs1
          rw [Nat.add_zero, Nat.sub_zero] at hd0
          have htop : dg 256 m (sz - 1) ≠ 0 := by
            by_cases h1 : sz = 1
            · subst h1
              have := hD.2.1
              unfold dg
              simp at this ⊢
              omega
            · exact dg_top (by omega) hD h1
          have hz0' : (((dg 256 m (sz - 1) : Nat) : Int) == 0) = false := by rw [beq_eq_false_iff_ne]; omega
          have HD : Hid (Digs 256 m sz) := hD
          subst hlls
          subst hlm
          clear hlg hD htop
          have e127 : bits .and .u8 ((128 + sz : Nat) : Int) 127 = (sz : Int) := by rw [and127 _ (by omega) (by omega)]; omega
          generalize dg 256 m (sz - 1) = dtop at *
          have hge : ¬ ((128 + sz : Nat) : Int) < 128 := by omega
          generalize 128 + sz = l0 at *
          go_wp2_with fail
          go_loopg [12, 17, 19] sz (fun g s12 s17 s19 wx => RelLen sz m lt g s12 s17 s19 ∧ w = wx)
          case atStart => exact ⟨⟨0, 0, by omega, by omega, by go_num, rfl, rfl, by omega, by rw [Nat.sub_zero, Nat.div_eq_of_lt HD.out.2.1]⟩, rfl⟩
          case round =>
            obtain ⟨⟨j, x, hj, hgk, rfl, rfl, rfl, hx, hX⟩, rfl⟩ := hrel
            have HX : Hid (x = m / 256 ^ (sz - j)) := hX
            clear hX
            by_cases hlt : j < sz
            · have h2 := hgd j hlt
              have hdl := dg_lt 256 m (sz - 1 - j) (by omega)
              have eor := or8 x (dg 256 m (sz - 1 - j)) hdl hx
              have HS : Hid (x * 256 + dg 256 m (sz - 1 - j) = m / 256 ^ (sz - (j + 1))) := by
                show _ = _
                rw [HX.out, show sz - j = (sz - 1 - j) + 1 from by omega, show sz - (j + 1) = sz - 1 - j from by omega]
                exact dg_step 256 m (sz - 1 - j)
              have hxn : x * 256 + dg 256 m (sz - 1 - j) < 4294967296 := by rw [HS.out]; exact Nat.lt_of_le_of_lt (Nat.div_le_self _ _) (by omega)
              have hi2 : ((lt + 1 + j : Nat) : Int) < ((lt + (sz + 1) + m : Nat) : Int) := by omega
              have hji : (j : Int) < (sz : Int) := by omega
              generalize dg 256 m (sz - 1 - j) = dd at *
              clear hgd HX
              go_wp2_with fail
              go_roundg (sz - (j + 1))
              case measure => omega
              case rel => exact ⟨⟨j + 1, _, by omega, rfl, by go_num, rfl, by go_num, hxn, HS.out⟩, rfl⟩
            · obtain rfl : j = sz := by omega
              have hxm : x = m := by rw [HX.out]; simp
              subst hxm
              clear hgd HX
              go_wp2_with fail
              go_meet
              case rel => exact ⟨by go_num, rfl, rfl⟩
    case rest =>
      obtain ⟨rfl, rfl, rfl⟩ := hcut
      have hgy := HGY.out
      have hyg : ∀ j, j < m → ∃ b' o' x, q = some ⟨b', o', none⟩ ∧ ys[j]? = some x ∧ w.cell? ⟨b', o' + j, none⟩ = some (.int .u8 x) := fun j hj => by
        rcases hy with rfl | ⟨b', o', e, hc⟩
        · have := HLY.out; simp at this; omega
        · have hjl : j < ys.length := by rw [HLY.out]; exact hj
          exact ⟨b', o', ys.getD j 0, e, by simp [List.getD, hjl], hc j hjl⟩
      clear h1 HL0 HGL HGY hy
      go_wp2_with fail
      go_loopw [20] (fun i wr => ∃ j k : Nat, j ≤ m ∧ i = .int .i64 j ∧ wr = w.drewN k) (fun i _ => m - (intOf i).toNat)
      case atStart => exact ⟨0, 0, by omega, rfl, rfl⟩
      case round =>
        obtain ⟨j, k, hj, rfl, rfl⟩ := hrel
        by_cases hlt : j < m
        · obtain ⟨b', o', x, rfl, hx, h2⟩ := hyg j hlt
          have h3 := hgy j x hx
          have hji : (j : Int) < (m : Int) := by omega
          have hji2 : ((lt + ll : Nat) : Int) + (j : Int) < ((lt + ll + m : Nat) : Int) := by omega
          clear hgy hyg hx
          go_wp2_with fail
          go_quiet (fail)
          go_wp2_with fail
          go_roundw
          case rel => exact ⟨j + 1, k + nq, by omega, by go_num, rfl⟩
          case measure => simp [intOf]; omega
        · clear hgy hyg
          go_wp2_with fail
          go_ret
          exact ⟨rfl, k, rfl⟩
end Go.Proofs.Qxb6604283a
