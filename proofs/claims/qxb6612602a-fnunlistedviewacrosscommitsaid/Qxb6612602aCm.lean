import Derived.Test.Qxb6612602aLow
namespace Go.Proofs.Qxb6612602a
open Go.ChangeShapes Go.WideShapes Go.ChangeAt Go.RowKit
set_option linter.unusedVariables false
namespace Commit
open Go.Proofs.Qxb6612602a.U
open Go.Proofs.Qxb6612602a.Low (ascending_len clone_len zzUnlisted_len least_len equal_len own_same below_same rd_drewN)

/-! ### The plain law: a list without its p-th number -/
theorem erase_getD (xs : List Int) (p t : Nat) (hp : p < xs.length) (ht : t < (xs.eraseIdx p).length) : (xs.eraseIdx p).getD t 0 = xs.getD (if t < p then t else t + 1) 0 := by
  rw [List.length_eraseIdx_of_lt hp] at ht
  simp only [List.getD, List.getElem?_eraseIdx]
  split <;> rfl

theorem Asc_lt {xs : List Int} {m : Int} (h : Asc xs m xs.length) : ∀ d i, i + d + 1 < xs.length → xs.getD i 0 < xs.getD (i + d + 1) 0 := by
  intro d
  induction d with
  | zero =>
    intro i hi
    have := (h (i + 1) (by omega)).2 (by omega)
    simpa using this
  | succ d ih =>
    intro i hi
    have h1 := ih i (by omega)
    have h2 := (h (i + d + 1 + 1) (by omega)).2 (by omega)
    simp only [Nat.add_sub_cancel] at h2
    show _ < xs.getD (i + (d + 1) + 1) 0
    have e : i + (d + 1) + 1 = i + d + 1 + 1 := by omega
    rw [e]; omega

theorem Asc_lt' {xs : List Int} {m : Int} (h : Asc xs m xs.length) (i j : Nat) (hij : i < j) (hj : j < xs.length) : xs.getD i 0 < xs.getD j 0 := by
  have := Asc_lt h (j - i - 1) i (by omega)
  have e : i + (j - i - 1) + 1 = j := by omega
  rwa [e] at this

theorem Asc_erase {xs : List Int} {m : Int} (h : Asc xs m xs.length) (p : Nat) (hp : p < xs.length) : Asc (xs.eraseIdx p) m (xs.eraseIdx p).length := by
  intro i hi
  have hl := List.length_eraseIdx_of_lt hp
  rw [erase_getD xs p i hp hi]
  refine ⟨(h _ (by split <;> omega)).1, fun h0 => ?_⟩
  rw [erase_getD xs p (i - 1) hp (by omega)]
  refine Asc_lt' h _ _ ?_ ?_
  · split <;> split <;> omega
  · split <;> omega

theorem low_le {xs : List Int} {m : Int} (h : Asc xs m xs.length) (p : Nat) (hp : p < xs.length) : xs.getD 0 m ≤ (xs.eraseIdx p).getD 0 m := by
  have h0 : xs.getD 0 m = xs.getD 0 0 := by simp [List.getD, List.getElem?_eq_getElem (show 0 < xs.length by omega)]
  have hl := List.length_eraseIdx_of_lt hp
  rw [h0]
  by_cases hz : 0 < (xs.eraseIdx p).length
  · have h1 : (xs.eraseIdx p).getD 0 m = (xs.eraseIdx p).getD 0 0 := by simp [List.getD, List.getElem?_eq_getElem hz]
    rw [h1, erase_getD xs p 0 hp hz]
    exact h.first_le _ (by split <;> omega)
  · have : xs.eraseIdx p = [] := List.eq_nil_of_length_eq_zero (by omega)
    rw [this]
    have := (h 0 (by omega)).1
    simp only [List.getD_nil]
    omega

set_option maxRecDepth 100000 in
set_option maxHeartbeats 8000000 in
theorem walk (a0 : Option Addr) (len0 cap0 : Nat) (z0 : List Int) (next com i : Int) (w : World) (w0 : IsRow .u64 w a0 len0 cap0 z0) (hn0 : 0 ≤ next) (hc0 : 0 ≤ com) (hc1 : com ≤ 18446744073709551615) (hi0 : -9223372036854775808 ≤ i) (hi1 : i ≤ 9223372036854775807) :
    Calls Try.prog 5 #[.slice a0 len0 cap0, .int .u64 next, .int .u64 com, .int .i64 i] w fun e w' => e = .returned (.bool true) ∧ Below w.heap.size w w' := by
  obtain ⟨xs, hl, hm, hrd, hnil⟩ := w0.open
  have HL := hid hl
  have HR := hid hrd
  have HN := hid hnil
  clear w0 hl hrd hnil
  go_enter Try.func5, Try.ntmps5
  go_wp2_with fail
  refine (bytes17_any a0 len0 cap0 next com i w hm).mono ?_
  rintro e w' ⟨t, rfl, rfl⟩
  unfold maxLen at hm
  cases t
  · go_wp2_with fail
    go_ret
    exact ⟨rfl, Below.refl _ _⟩
  by_cases hgt : 65536 < len0
  · go_wp2_with fail
    go_ret
    exact ⟨rfl, Below.refl _ _⟩
  by_cases hneg : i < 0
  · have hd : decide (i < 0) = true := by simp; omega
    go_wp2_with fail
    go_ret
    exact ⟨rfl, Below.refl _ _⟩
  have hd : decide (i < 0) = false := by simp; omega
  by_cases hout : (len0 : Int) ≤ i
  · go_wp2_with fail
    go_ret
    exact ⟨rfl, Below.refl _ _⟩
  obtain ⟨p, rfl⟩ : ∃ p : Nat, i = (p : Int) := ⟨i.toNat, by omega⟩
  obtain ⟨m, hm1, hm2⟩ : ∃ m : Nat, m < len0 ∧ (len0 : Int) ≤ (m : Int) + 1 := ⟨len0 - 1, by omega, by omega⟩
  have hp : p < len0 := by omega
  clear hi0 hi1 hneg hd hout
  by_cases hmax : 18446744073709551615 ≤ com
  · go_wp2_with fail
    go_ret
    exact ⟨rfl, Below.refl _ _⟩
  have hmx : com + 1 ≤ 18446744073709551615 := by omega
  clear hc1 hmax
  go_wp2_with fail
  refine (ascending_len HL.out cap0 next (by omega) w' HR.out).mono ?_
  rintro e w1 ⟨t, rfl, hasc, n1, rfl⟩
  cases t
  · clear hasc
    go_wp2_with fail
    go_ret
    exact ⟨rfl, below_drewN (Below.refl _ _) _⟩
  have HA := hid (hasc rfl)
  clear hasc
  have hpx : p < xs.length := by rw [HL.out]; exact hp
  have HRS : Hid ((xs.eraseIdx p).length = m) := by
    have := HL.out
    rw [Hid, List.length_eraseIdx_of_lt hpx]; omega
  have HE : Hid (∀ t, t < m → (xs.eraseIdx p).getD t 0 = xs.getD (if t < p then t else t + 1) 0) := fun t ht => erase_getD xs p t hpx (by rw [HRS.out]; exact ht)
  have HLS1 : Hid (least xs next = xs.getD 0 next) := least_asc HA.out
  have HLS2 : Hid (least (xs.eraseIdx p) next = (xs.eraseIdx p).getD 0 next) := least_asc (Asc_erase HA.out p hpx)
  have hlow : xs.getD 0 next ≤ (xs.eraseIdx p).getD 0 next := low_le HA.out p hpx
  clear hpx HA
  generalize xs.eraseIdx p = rs at *
  have HB1 : Hid (Below w'.heap.size w' (w'.drewN n1)) := below_drewN (Below.refl _ _) _
  have HR1 := hid (HR.out.below HB1.out)
  go_wp2_with fail
  refine (clone_len HL.out cap0 (by omega) (w'.drewN n1) HR1.out HN.out).mono ?_
  rintro e w2 ⟨b0, c0, rfl, hO0, hb2⟩
  have HB2 : Hid (Below w'.heap.size w' w2) := HB1.out.trans (hb2.mono (Nat.le_refl _))
  clear hb2
  have HO0 : Hid (Own w2 w'.heap.size (.slice b0 len0 c0) xs) := hO0
  clear hO0
  go_wp2_with fail
  refine (clone_len HL.out c0 (by omega) w2 HO0.out.read HO0.out.nilOf).mono ?_
  rintro e w3 ⟨b1, c1, rfl, hO1, hb3⟩
  have HB3 : Hid (Below w'.heap.size w' w3) := HB2.out.trans (hb3.mono HB2.out.size)
  have HP0 : Hid (Own w3 w'.heap.size (.slice b0 len0 c0) xs) := HO0.out.below hb3
  have HO1 : Hid (Own w3 w2.heap.size (.slice b1 len0 c1) xs) := hO1
  have hz2 : w'.heap.size < w2.heap.size := HO0.out.lt (by rw [HL.out]; omega)
  have hz23 : w2.heap.size < w3.heap.size := hO1.lt (by rw [HL.out]; omega)
  clear hO1 hb3 HO0 HB2 HB1 HR1 HR HN
  obtain ⟨i0, hi, hz0, hz1, hzz⟩ := info_parts info27
  go_wp2_with (at_make; refine wpList_make_full _ rfl (.tmp 60) (.tmp 60) 26 rfl 0 27 i0 (.int .u64 0) 1 Try.underlying26 hi hz0 hz1 .i64 .i64 _ _ m rfl rfl (by omega) (by omega) (by rw [hzz]; omega) (by unfold maxLen; omega) (Nat.zero_le _) ?_; intro w4 hown hgrow)
  have hb4 : Below w3.heap.size w3 w4 := (Below.refl _ w3).grown hgrow (Nat.le_refl _) (by intro k h; cases h)
  have HQ : Hid (Part w4 w3.heap.size m rs 0) := Part.start hown
  have HB4 := hid hb4
  clear hown hgrow hi hz0 hz1 hzz hb4
  go_loopw [11, 12] (fun kk i wr => ∃ (j k : Nat), j ≤ len0 ∧ i = .int .i64 j ∧ kk = .int .i64 k ∧ (j ≤ p → k = j) ∧ (p < j → k + 1 = j) ∧ Hid (Part wr w3.heap.size m rs k) ∧ Hid (Below w3.heap.size w3 wr)) (fun _ i _ => len0 - (intOf i).toNat)
  case atStart => exact ⟨0, 0, Nat.zero_le _, rfl, rfl, fun _ => rfl, fun h => absurd h (by omega), HQ, HB4⟩
  case round =>
    obtain ⟨j, k, hj, rfl, rfl, hk1, hk2, HW, HBr⟩ := hrel
    by_cases hlt : j < len0
    · by_cases hjp : j = p
      · have hk : k ≤ j := by have := hk1 (by omega); omega
        have HK1 : Hid (k = j) := hk1 (by omega)
        have hne : ((j : Int) != (p : Int)) = false := by simp [hjp]
        have HJP := hid hjp
        clear hk1 hk2 hjp
        go_wp2
        go_roundw
        case rel => exact ⟨j + 1, k, by omega, by go_num, rfl, fun h => by have := HJP.out; omega, fun _ => by have := HK1.out; omega, HW, HBr⟩
        case measure => simp [intOf]; omega
      · have hne : ((j : Int) != (p : Int)) = true := by simp; omega
        have hkm : k < m := by
          by_cases h : j < p
          · have := hk1 (by omega); omega
          · have := hk2 (by omega); omega
        have HV : Hid (xs.getD j 0 = rs.getD k 0) := by
          rw [Hid, HE.out k hkm]
          by_cases h : j < p
          · have := hk1 (by omega); rw [if_pos (by omega), this]
          · have := hk2 (by omega); rw [if_neg (by omega), this]
        have HK : Hid ((j + 1 ≤ p → k + 1 = j + 1) ∧ (p < j + 1 → k + 1 + 1 = j + 1)) := by
          refine ⟨fun h => ?_, fun h => ?_⟩
          · have := hk1 (by omega); omega
          · have := hk2 (by omega); omega
        obtain ⟨b, off, hx, hbl, hc⟩ := HP0.out.read (by rw [HL.out]; omega)
        subst hx
        have hcell : wr.cell? ⟨b, off + j, none⟩ = some (.int .u64 (xs.getD j 0)) := (HBr.out.cell (p := ⟨b, off + j, none⟩) hbl).trans (hc j (by rw [HL.out]; exact hlt))
        clear hc
        obtain ⟨⟨u, hat⟩, hfz, hnew⟩ := HW.out.step hkm (xs.getD j 0) HV.out
        have R := hid hnew
        have R2 : Hid (Below w3.heap.size w3 (wr.setCell ⟨w3.heap.size, k, none⟩ (.int .u64 (xs.getD j 0)))) := HBr.out.setCell (p := ⟨w3.heap.size, k, none⟩) (Nat.le_refl _) _
        have hkb : (k : Int) ≤ 65536 := by omega
        have hki : (k : Int) < (m : Int) := by omega
        clear hnew hk1 hk2 hjp
        generalize xs.getD j 0 = y at *
        go_wp2
        go_roundw
        case rel => exact ⟨j + 1, k + 1, by omega, by go_num, by go_num, HK.out.1, HK.out.2, R, R2⟩
        case measure => simp [intOf]; omega
    · have hkm : k = m := by have := hk2 (by omega); omega
      subst hkm
      have R0 := hid (Part.full HW.out HRS.out)
      have R2 := HBr
      clear hk1 hk2 HW HBr HQ HB4
      go_wp2_with fail
      generalize wr = W5 at *
      have P0 := hid (HP0.out.below R2.out)
      have P1 := hid (HO1.out.below R2.out)
      have hz35 : w3.heap.size < W5.heap.size := by
        rcases R0.out with ⟨h, _⟩ | ⟨cap, hv, ho⟩
        · cases h
        · exact (ho.lt w3.heap.size rfl).2
      have B5 : Hid (Below w'.heap.size w' W5) := HB3.out.trans (R2.out.mono HB3.out.size)
      clear HP0 HO1 R2 HB3
      refine (newRegistry_any b1 len0 c1 next com W5).mono ?_
      rintro e W6 ⟨rfl, hW6⟩
      have b56 : Below W5.heap.size W5 W6 := by subst hW6; exact (Below.refl _ _).alloc (Nat.le_refl _) _
      have hR6 : W6.heap[W5.heap.size]? = some (.cells (reg (.slice b1 len0 c1) next com 0) 62 (0, 0)) := by subst hW6; exact heap_alloc_new _ _
      have hs6 : W6.heap.size = W5.heap.size + 1 := by subst hW6; simp
      have Q0 := hid (P0.out.below b56)
      have Q1 := hid (P1.out.below b56)
      have Q2 := hid (R0.out.below b56)
      have H6 := hid hR6
      have B6 := hid b56
      have S6 := hid hs6
      clear hW6 b56 hR6 hs6 P0 P1 R0
      go_wp2_with fail
      refine (zzUnlisted_len HL.out W5.heap.size b1 c1 next com (by omega) W6 H6.out Q1.out.read (Q1.out.apart (by omega)) Q1.out.nilOf).mono ?_
      rintro e W7 ⟨g1, V1, a1, d1, rfl, hO7, hg1, hV1, hc7, hb7⟩
      rw [HL.out] at hO7 hc7
      have U1 := hid hO7
      have C1 := hid hc7
      have B7 : Hid (Below W5.heap.size W5 W7) := B6.out.trans hb7
      have T0 := hid (Q0.out.of_block (fun h => hb7.block _ (by omega)))
      have T1 := hid (Q1.out.of_block (fun h => hb7.block _ (by omega)))
      have T2 := hid (Q2.out.of_block (fun h => hb7.block _ (by omega)))
      have hV1l : V1 < W7.heap.size := (Array.getElem?_eq_some_iff.1 hc7).1
      have hz67 : W6.heap.size ≤ W7.heap.size := hb7.size
      have hs6 : W5.heap.size < W6.heap.size := by have := S6.out; omega
      have hg1l : g1 < W7.heap.size := hO7.lt (by rw [HL.out]; omega)
      clear hO7 hc7 hb7 Q0 Q1 Q2 H6 B6 S6
      go_wp2_with fail
      refine (newRegistry_any (some ⟨w3.heap.size, 0, none⟩) k k next (com + 1) W7).mono ?_
      rintro e W8 ⟨rfl, hW8⟩
      have b78 : Below W7.heap.size W7 W8 := by subst hW8; exact (Below.refl _ _).alloc (Nat.le_refl _) _
      have hR8 : W8.heap[W7.heap.size]? = some (.cells (reg (.slice (some ⟨w3.heap.size, 0, none⟩) k k) next (com + 1) 0) 62 (0, 0)) := by subst hW8; exact heap_alloc_new _ _
      have hs8 : W8.heap.size = W7.heap.size + 1 := by subst hW8; simp
      have Q0 := hid (T0.out.below b78)
      have Q1 := hid (T1.out.below b78)
      have Q2 := hid (T2.out.below b78)
      have H8 := hid hR8
      have B8 := hid b78
      have S8 := hid hs8
      have C2 := hid ((b78.block V1 hV1l).trans C1.out)
      clear hW8 b78 hR8 hs8 T0 T1 T2 C1
      go_wp2_with fail
      refine (zzUnlisted_len HRS.out W7.heap.size (some ⟨w3.heap.size, 0, none⟩) k next (com + 1) (by omega) W8 H8.out Q2.out.read (Q2.out.apart (by omega)) Q2.out.nilOf).mono ?_
      rintro e W9 ⟨g2, V2, a2, d2, rfl, hO9, hg2, hV2, hc9, hb9⟩
      rw [HRS.out] at hO9 hc9
      have U2 := hid hO9
      have B9 : Hid (Below W7.heap.size W7 W9) := B8.out.trans hb9
      have T0 := hid (Q0.out.of_block (fun h => hb9.block _ (by omega)))
      have T1 := hid (Q1.out.of_block (fun h => hb9.block _ (by omega)))
      have T2 := hid (Q2.out.of_block (fun h => hb9.block _ (by omega)))
      have T3 := hid (U1.out.below B9.out)
      have C4 := hid ((hb9.block V1 hV1l).trans C2.out)
      have C3 := hid hc9
      have B10 : Hid (Below w'.heap.size w' W9) := (B5.out.trans (B7.out.mono B5.out.size)).trans (B9.out.mono (by omega))
      have hs8 : W7.heap.size < W8.heap.size := by have := S8.out; omega
      have hn1 : w'.heap.size ≠ g1 := by omega
      have hn2 : w'.heap.size ≠ g2 := by omega
      have hn3 : w2.heap.size ≠ g1 := by omega
      have hn4 : w2.heap.size ≠ g2 := by omega
      have hn5 : w3.heap.size ≠ g1 := by omega
      have hn6 : w3.heap.size ≠ g2 := by omega
      have hn7 : g2 ≠ g1 := by omega
      have hb1' : w'.heap.size ≤ g1 := by omega
      have hb2' : w'.heap.size ≤ g2 := by omega
      clear hO9 hc9 hb9 Q0 Q1 Q2 H8 B8 S8 C2 U1 B9 B7 B5
      generalize xs.getD 0 next = lo1 at *
      generalize rs.getD 0 next = lo2 at *
      go_wp2_with fail
      refine (viewFields_any V1 a1 len0 d1 lo1 next com W9 C4.out).mono ?_
      rintro e W10 ⟨rfl, n2, rfl⟩
      go_wp2_with fail
      refine (viewFields_any V2 a2 k d2 lo2 next (com + 1) (W9.drewN n2) C3.out).mono ?_
      rintro e W11 ⟨rfl, n3, rfl⟩
      rw [World.drewN_drewN]
      have E0 := hid (T0.out.drewN (n2 + n3))
      have E1 := hid (T1.out.drewN (n2 + n3))
      have E2 := hid (T2.out.drewN (n2 + n3))
      have E3 := hid (T3.out.drewN (n2 + n3))
      have E4 := hid (U2.out.drewN (n2 + n3))
      have B11 : Hid (Below w'.heap.size w' (W9.drewN (n2 + n3))) := below_drewN B10.out _
      clear T0 T1 T2 T3 U2 C3 C4 B10
      clear hz2 hz23 hz35 hg1 hV1 hV1l hz67 hs6 hg1l hg2 hV2 hs8
      generalize W9.drewN (n2 + n3) = W at E0 E1 E2 E3 E4 B11
      generalize w3.heap.size = G3 at *
      generalize w2.heap.size = G2 at *
      go_wp2_with fail
      refine (equal_len HL.out a1 b0 d1 c0 (by omega) W E3.out.read E0.out.read).mono ?_
      rintro e We ⟨rfl, n4, rfl⟩
      have E0' := hid (E0.out.drewN n4)
      have E1' := hid (E1.out.drewN n4)
      have E2' := hid (E2.out.drewN n4)
      have E3' := hid (E3.out.drewN n4)
      have E4' := hid (E4.out.drewN n4)
      have B12 : Hid (Below w'.heap.size w' (W.drewN n4)) := below_drewN B11.out _
      clear E0 E1 E2 E3 E4 B11
      generalize W.drewN n4 = Y at E0' E1' E2' E3' E4' B12
      have hkk : ((k : Int) != (len0 : Int) - 1) = false := by simp; omega
      go_wp2_with fail
      go_loopw [25, 26] (fun i s wx => ∃ j n : Nat, j ≤ k ∧ i = .int .i64 j ∧ wx = Y.drewN n) (fun i _ _ => k - (intOf i).toNat)
      case atStart => exact ⟨0, 0, Nat.zero_le _, rfl, rfl⟩
      case round =>
        obtain ⟨j2, n6, hj2, rfl, rfl⟩ := hrel
        by_cases hlt2 : j2 < k
        · obtain ⟨b, off, hx, _, hc⟩ := E4'.out.read (by rw [HRS.out]; omega)
          obtain ⟨b', off', hx', _, hc'⟩ := E0'.out.read (by rw [HL.out]; omega)
          subst hx
          subst hx'
          have hc1 := hc j2 (by rw [HRS.out]; exact hlt2)
          rw [HE.out j2 hlt2] at hc1
          have I0 : (0 : Int) ≤ (j2 : Int) := by omega
          have I1 : (j2 : Int) < (k : Int) := by omega
          have I2 : (j2 : Int) < (len0 : Int) := by omega
          have I3 : (j2 : Int) + 1 < (len0 : Int) := by omega
          have I4 : (0 : Int) ≤ (j2 : Int) + 1 := by omega
          by_cases hjp : j2 < p
          · rw [if_pos hjp] at hc1
            have hc2 := hc' j2 (by rw [HL.out]; omega)
            clear hc hc'
            generalize xs.getD j2 0 = y at hc1 hc2
            go_wp2
            go_quiet (fail)
            go_wp2
            go_roundw
            case rel => exact ⟨j2 + 1, _, by omega, by go_num, rfl⟩
            case measure => simp [intOf]; omega
          · rw [if_neg hjp] at hc1
            have hc2 := hc' (j2 + 1) (by rw [HL.out]; omega)
            clear hc hc'
            generalize xs.getD (j2 + 1) 0 = y at hc1 hc2
            go_wp2
            go_quiet (fail)
            go_wp2
            go_roundw
            case rel => exact ⟨j2 + 1, _, by omega, by go_num, rfl⟩
            case measure => simp [intOf]; omega
        · have Z0 := hid (E0'.out.drewN n6)
          have Z1 := hid (E1'.out.drewN n6)
          have Z2 := hid (E2'.out.drewN n6)
          have Z3 := hid (E3'.out.drewN n6)
          have Z4 := hid (E4'.out.drewN n6)
          have B13 : Hid (Below w'.heap.size w' (Y.drewN n6)) := below_drewN B12.out _
          clear E0' E1' E2' E3' E4' B12
          generalize Y.drewN n6 = Z at Z0 Z1 Z2 Z3 Z4 B13
          go_wp2_with fail
          refine (least_len HL.out b0 c0 next (by omega) Z Z0.out.read HLS1.out).mono ?_
          rintro e wl ⟨rfl, rfl⟩
          have ho1 : (lo1 != lo1) = false := by simp
          have ho2 : (lo2 != lo2) = false := by simp
          go_wp2_with fail
          refine (least_len HRS.out (some ⟨G3, 0, none⟩) k next (by omega) wl Z2.out.read HLS2.out).mono ?_
          rintro e wl2 ⟨rfl, rfl⟩
          go_wp2_with fail
          go_loopw [27] (fun i wx => ∃ (j : Nat) (ys : List Int), j ≤ len0 ∧ i = .int .i64 j ∧ Hid (ys.length = len0) ∧ Hid (Own wx g1 (.slice a1 len0 d1) ys) ∧ Hid (Only g1 wl2 wx)) (fun i _ => len0 - (intOf i).toNat)
          case atStart => exact ⟨0, xs, Nat.zero_le _, rfl, HL, Z3, Only.refl _ _⟩
          case round =>
            obtain ⟨j3, ys, hj3, rfl, HY, HW2, HO2⟩ := hrel
            by_cases hlt3 : j3 < len0
            · obtain ⟨hb1, hcc1, hf1, hst⟩ := HW2.out.store (by rw [HY.out]; exact hlt3)
              subst hb1
              have HST := hid hst
              clear hst
              go_wp2
              go_roundw
              case rel => exact ⟨j3 + 1, _, by omega, by go_num, by rw [Hid, List.length_set]; exact HY.out, HST.out _, HO2.out.setCell j3 _⟩
              case measure => simp [intOf]; omega
            · have F0 := hid (Z0.out.only HO2.out hn1)
              have F1 := hid (Z1.out.only HO2.out hn3)
              have F2 := hid (Z2.out.only HO2.out hn5)
              have F4 := hid (Z4.out.only HO2.out hn7)
              have B14 : Hid (Below w'.heap.size w' wr) := B13.out.trans (HO2.out.below hb1')
              clear Z0 Z1 Z2 Z3 Z4 B13 HO2 HW2 HY hn1 hn3 hn5 hn7 hb1'
              generalize wr = X at F0 F1 F2 F4 B14
              go_wp2_with fail
              go_loopw [28] (fun i wx => ∃ (j : Nat) (ys : List Int), j ≤ k ∧ i = .int .i64 j ∧ Hid (ys.length = k) ∧ Hid (Own wx g2 (.slice a2 k d2) ys) ∧ Hid (Only g2 X wx)) (fun i _ => k - (intOf i).toNat)
              case atStart => exact ⟨0, rs, Nat.zero_le _, rfl, HRS, F4, Only.refl _ _⟩
              case round =>
                obtain ⟨j4, ys4, hj4, rfl, HY, HW2, HO2⟩ := hrel
                by_cases hlt4 : j4 < k
                · obtain ⟨hb1, hcc1, hf1, hst⟩ := HW2.out.store (by rw [HY.out]; exact hlt4)
                  subst hb1
                  have HST := hid hst
                  clear hst
                  go_wp2
                  go_roundw
                  case rel => exact ⟨j4 + 1, _, by omega, by go_num, by rw [Hid, List.length_set]; exact HY.out, HST.out _, HO2.out.setCell j4 _⟩
                  case measure => simp [intOf]; omega
                · have M0 := hid (F0.out.only HO2.out hn2)
                  have M1 := hid (F1.out.only HO2.out hn4)
                  have M2 := hid (F2.out.only HO2.out hn6)
                  have B15 : Hid (Below w'.heap.size w' wr) := B14.out.trans (HO2.out.below hb2')
                  clear F0 F1 F2 F4 B14 HO2 HW2 HY hn2 hn4 hn6 hb2'
                  generalize wr = X2 at M0 M1 M2 B15
                  go_wp2_with fail
                  refine (equal_len HL.out b1 b0 c1 c0 (by omega) X2 M1.out.read M0.out.read).mono ?_
                  rintro e We ⟨rfl, n7, rfl⟩
                  have N0 := hid (M0.out.drewN n7)
                  have N2 := hid (M2.out.drewN n7)
                  have B16 : Hid (Below w'.heap.size w' (X2.drewN n7)) := below_drewN B15.out _
                  clear M0 M1 M2 B15
                  generalize X2.drewN n7 = X3 at N0 N2 B16
                  go_wp2_with fail
                  go_loopw [29, 30] (fun i s wx => ∃ j n : Nat, j ≤ k ∧ i = .int .i64 j ∧ wx = X3.drewN n) (fun i _ _ => k - (intOf i).toNat)
                  case atStart => exact ⟨0, 0, Nat.zero_le _, rfl, rfl⟩
                  case round =>
                    obtain ⟨j5, n8, hj5, rfl, rfl⟩ := hrel
                    by_cases hlt5 : j5 < k
                    · obtain ⟨b, off, hx, _, hc⟩ := N2.out.read (by rw [HRS.out]; omega)
                      obtain ⟨b', off', hx', _, hc'⟩ := N0.out.read (by rw [HL.out]; omega)
                      simp only [Option.some.injEq, Addr.mk.injEq] at hx
                      obtain ⟨rfl, rfl, _⟩ := hx
                      subst hx'
                      have hc1 := hc j5 (by rw [HRS.out]; exact hlt5)
                      rw [HE.out j5 hlt5, Nat.zero_add] at hc1
                      have I0 : (0 : Int) ≤ (j5 : Int) := by omega
                      have I1 : (j5 : Int) < (k : Int) := by omega
                      have I2 : (j5 : Int) < (len0 : Int) := by omega
                      have I3 : (j5 : Int) + 1 < (len0 : Int) := by omega
                      have I4 : (0 : Int) ≤ (j5 : Int) + 1 := by omega
                      by_cases hjp : j5 < p
                      · rw [if_pos hjp] at hc1
                        have hc2 := hc' j5 (by rw [HL.out]; omega)
                        clear hc hc'
                        generalize xs.getD j5 0 = y at hc1 hc2
                        go_wp2
                        go_quiet (fail)
                        go_wp2
                        go_roundw
                        case rel => exact ⟨j5 + 1, _, by omega, by go_num, rfl⟩
                        case measure => simp [intOf]; omega
                      · rw [if_neg hjp] at hc1
                        have hc2 := hc' (j5 + 1) (by rw [HL.out]; omega)
                        clear hc hc'
                        generalize xs.getD (j5 + 1) 0 = y at hc1 hc2
                        go_wp2
                        go_quiet (fail)
                        go_wp2
                        go_roundw
                        case rel => exact ⟨j5 + 1, _, by omega, by go_num, rfl⟩
                        case measure => simp [intOf]; omega
                    · have BF : Hid (Below w'.heap.size w' (X3.drewN n8)) := below_drewN B16.out _
                      go_wp2_with fail
                      go_ret
                      exact ⟨rfl, BF.out⟩
end Commit
end Go.Proofs.Qxb6612602a
