import Derived.Test.Qxb6612602aRw
namespace Go.Proofs.Qxb6612602a
open Go.ChangeShapes Go.WideShapes Go.ChangeAt Go.RowKit
set_option linter.unusedVariables false
namespace Low
open Go.Proofs.Qxb6612602a.U

theorem ascending_len {a : Option Addr} {xs : List Int} {len : Nat} (hl : xs.length = len) (cap : Nat) (m : Int) (hlen : len ≤ 1048576) (w : World) (h : Rd w a xs) :
    Calls Try.prog 10 #[.slice a len cap, .int .u64 m] w (AscEnd xs m w) := by
  subst hl; exact ascending_any a xs cap m hlen w h

theorem clone_len {a : Option Addr} {xs : List Int} {len : Nat} (hl : xs.length = len) (cap : Nat) (hlen : len ≤ 1048576) (w : World) (h : Rd w a xs) (hn : a = none → xs = []) :
    Calls Try.prog 11 #[.slice a len cap] w fun e w' => ∃ a' c', e = .returned (.slice a' len c') ∧ Own w' w.heap.size (.slice a' len c') xs ∧ Below w.heap.size w w' := by
  subst hl
  refine (clone_any a xs cap hlen w h hn).mono ?_
  rintro e w' ⟨v, rfl, hO, hb, _⟩
  obtain ⟨a', c', rfl⟩ := hO.shape
  exact ⟨a', c', rfl, hO, hb⟩

theorem zzUnlisted_len {xs : List Int} {len : Nat} (hl : xs.length = len) (R : Nat) (a : Option Addr) (c : Nat) (next com : Int) (hlen : len ≤ 1048577) (w : World)
    (hR : w.heap[R]? = some (.cells (reg (.slice a len c) next com 0) 62 (0, 0))) (hrd : Rd w a xs) (hne : ∀ b off, a = some ⟨b, off, none⟩ → b ≠ R) (hn : a = none → xs = []) :
    Calls Try.prog 12 #[.pointer (some ⟨R, 0, none⟩)] w (UvEnd w R xs next com) := by
  subst hl; exact zzUnlisted_any R a c xs next com hlen w hR hrd hne hn

theorem low_app (xs : List Int) (m : Int) : (xs ++ [m]).getD 0 (m + 1) = xs.getD 0 m := by
  cases xs <;> rfl

theorem own_same {k g g' : Nat} {W wr : World} {v : Value} {xs : List Int} (h : Own W g v xs) (ho : wr = W ∨ (0 < k ∧ Only g' W wr)) (hne : 0 < k → g ≠ g') : Own wr g v xs := by
  rcases ho with rfl | ⟨h0, ho⟩
  · exact h
  · exact h.only ho (hne h0)
theorem rd_same {k g g' : Nat} {W wr : World} {a : Option Addr} {l c : Nat} {xs : List Int} (h : Own W g (.slice a l c) xs) (ho : wr = W ∨ (0 < k ∧ Only g' W wr)) (hne : 0 < k → g ≠ g') (hl : xs.length = k) : Rd wr a xs :=
  (own_same h ho hne).read
theorem below_same {k B g : Nat} {w W wr : World} (h : Below B w W) (ho : wr = W ∨ (0 < k ∧ Only g W wr)) (hB : B ≤ g) : Below B w wr := by
  rcases ho with rfl | ⟨_, ho⟩
  · exact h
  · exact h.trans (ho.below hB)

theorem getD_last' (xs : List Int) (m : Int) (k : Nat) (h : xs.length = k) : m = (xs ++ [m]).getD k 0 := by
  subst h; simp [List.getD]
theorem rd_apart {g g' : Nat} {W wr : World} {a : Option Addr} {l c : Nat} {xs : List Int} (h : Own W g (.slice a l c) xs) (ho : Only g' W wr) (hne : 0 < xs.length → g ≠ g') : Rd wr a xs := by
  intro h0
  exact (h.only ho (hne h0)).read h0
theorem rd_drewN {w : World} {a : Option Addr} {xs : List Int} (h : Rd w a xs) (n : Nat) : Rd (w.drewN n) a xs := h
theorem rd_prefix {w : World} {a : Option Addr} {xs : List Int} {m : Int} (h : Rd w a (xs ++ [m])) : Rd w a xs := by
  intro h0
  obtain ⟨b, off, rfl, hl, hc⟩ := h (by simp)
  refine ⟨b, off, rfl, hl, fun i hi => ?_⟩
  rw [hc i (by simp; omega)]
  simp [List.getD, List.getElem?_append_left hi]
theorem own_last {w : World} {g : Nat} {a : Option Addr} {k c : Nat} {xs : List Int} {m : Int} (h : Own w g (.slice a (k + 1) c) (xs ++ [m])) (hl : xs.length = k) :
    a = some ⟨g, 0, none⟩ ∧ k + 1 ≤ c ∧ w.cell? ⟨g, k, none⟩ = some (.int .u64 m) := by
  obtain ⟨ha, hc, _⟩ := h.store (k := k) (by simp; omega)
  refine ⟨ha, ?_, ?_⟩
  · rcases h with ⟨_, h⟩ | ⟨cap, hv, ho⟩
    · simp at h
    · simp only [Value.slice.injEq] at hv
      obtain ⟨rfl, hlen, rfl⟩ := hv
      rcases ho.2 with ⟨h, _⟩ | ⟨g', cap', cur, h, _, _, hnc, _⟩
      · simp at h
      · simp only [Value.slice.injEq] at h
        obtain ⟨_, _, rfl⟩ := h
        rw [hlen]; exact hnc
  · rw [hc, ← getD_last' xs m k hl]
theorem least_len {xs : List Int} {len : Nat} (hl : xs.length = len) (a : Option Addr) (cap : Nat) (m : Int) (hlen : len ≤ 1048576) (w : World) (h : Rd w a xs) {lo : Int} (hlo : least xs m = lo) :
    Calls Try.prog 15 #[.slice a len cap, .int .u64 m] w fun e w' => e = .returned (.int .u64 lo) ∧ w' = w := by
  subst hl; subst hlo; exact least_any a xs cap m hlen w h
theorem equal_len {xs : List Int} {len : Nat} (hl : xs.length = len) (a b : Option Addr) (ca cb : Nat) (hlen : len ≤ 1048576) (w : World) (ha : Rd w a xs) (hb : Rd w b xs) :
    Calls Try.prog 16 #[.slice a len ca, .slice b len cb] w fun e w' => e = .returned (.bool true) ∧ ∃ n, w' = w.drewN n := by
  subst hl; exact equal_any a b xs ca cb hlen w ha hb

theorem getD_app (xs : List Int) (m : Int) (k : Nat) (h : k < xs.length) : xs.getD k 0 = (xs ++ [m]).getD k 0 := by
  simp [List.getD, List.getElem?_append_left h]
theorem getD_last (xs : List Int) (m : Int) (k : Nat) (h : xs.length = k) : m = (xs ++ [m]).getD k 0 := by
  subst h; simp [List.getD]

set_option maxRecDepth 100000 in
set_option maxHeartbeats 4000000 in
theorem walk (a0 : Option Addr) (len0 cap0 : Nat) (z0 : List Int) (next com : Int) (w : World) (w0 : IsRow .u64 w a0 len0 cap0 z0) (hn0 : 0 ≤ next) (hn1 : next ≤ 18446744073709551615) :
    Calls Try.prog 4 #[.slice a0 len0 cap0, .int .u64 next, .int .u64 com] w fun e w' => e = .returned (.bool true) ∧ Below w.heap.size w w' := by
  obtain ⟨xs, hl, hm, hrd, hnil⟩ := w0.open
  have HL := hid hl
  have HR := hid hrd
  have HN := hid hnil
  clear w0 hl hrd hnil
  go_enter Try.func4, Try.ntmps4
  go_wp2_with fail
  refine (bytes9_any a0 len0 cap0 next com w hm).mono ?_
  rintro e w' ⟨t, rfl, rfl⟩
  unfold maxLen at hm
  cases t
  · go_wp2_with fail
    go_ret
    exact ⟨rfl, Below.refl _ _⟩
  by_cases hgt : 65536 < len0
  · go_wp2_with fail
    go_ret
    exact ⟨rfl, Below.refl _ _⟩
  by_cases hmax : 18446744073709551615 ≤ next
  · go_wp2_with fail
    go_ret
    exact ⟨rfl, Below.refl _ _⟩
  have hmx : next + 1 ≤ 18446744073709551615 := by omega
  clear hn1 hmax
  go_wp2_with fail
  refine (ascending_len HL.out cap0 next (by omega) w' HR.out).mono ?_
  rintro e w1 ⟨t, rfl, hasc, n1, rfl⟩
  cases t
  · clear hasc
    go_wp2_with fail
    go_ret
    exact ⟨rfl, below_drewN (Below.refl _ _) _⟩
  have HA := hid (hasc rfl)
  clear hasc
  have HB1 : Hid (Below w'.heap.size w' (w'.drewN n1)) := below_drewN (Below.refl _ _) _
  have HR1 := hid (HR.out.below HB1.out)
  go_wp2_with fail
  refine (clone_len HL.out cap0 (by omega) (w'.drewN n1) HR1.out HN.out).mono ?_
  rintro e w2 ⟨b0, c0, rfl, hO0, hb2⟩
  have HB2 : Hid (Below w'.heap.size w' w2) := HB1.out.trans (hb2.mono (Nat.le_refl _))
  clear hb2
  have HO0 : Hid (Own w2 w'.heap.size (.slice b0 len0 c0) xs) := hO0
  clear hO0
  go_wp2_with fail
  refine (clone_len HL.out c0 (by omega) w2 HO0.out.read HO0.out.nilOf).mono ?_
  rintro e w3 ⟨b1, c1, rfl, hO1, hb3⟩
  have HB3 : Hid (Below w'.heap.size w' w3) := HB2.out.trans (hb3.mono HB2.out.size)
  have HP0 : Hid (Own w3 w'.heap.size (.slice b0 len0 c0) xs) := HO0.out.below hb3
  have HO1 : Hid (Own w3 w2.heap.size (.slice b1 len0 c1) xs) := hO1
  have hz23 : w2.heap.size ≤ w3.heap.size := hb3.size
  have hz2 : w'.heap.size ≤ w2.heap.size := HB2.out.size
  have HG : Hid (0 < len0 → w'.heap.size < w2.heap.size) := fun h0 => HO0.out.lt (by rw [HL.out]; exact h0)
  have GB : Hid (0 < len0 → w2.heap.size < w3.heap.size) := fun h0 => HO1.out.lt (by rw [HL.out]; exact h0)
  clear hO1 hb3 HO0 HB2
  obtain ⟨i0, hi, hz0, hz1, hzz⟩ := info_parts info27
  go_wp2_with (at_make; refine wpList_make_full _ rfl (.tmp 45) (.tmp 45) 26 rfl 0 27 i0 (.int .u64 0) 1 Try.underlying26 hi hz0 hz1 .i64 .i64 _ _ (len0 + 1) rfl rfl (by omega) (by omega) (by rw [hzz]; omega) (by unfold maxLen; omega) (Nat.zero_le _) ?_; intro w4 hown hgrow)
  have hb4 : Below w3.heap.size w3 w4 := (Below.refl _ w3).grown hgrow (Nat.le_refl _) (by intro k h; cases h)
  have HQ : Hid (Part w4 w3.heap.size (len0 + 1) (xs ++ [next]) 0) := Part.start hown
  have HB4 := hid hb4
  clear hown hgrow hi hz0 hz1 hzz hb4
  go_loopw [9] (fun i wr => ∃ k : Nat, k ≤ len0 ∧ i = .int .i64 k ∧ Hid (Part wr w3.heap.size (len0 + 1) (xs ++ [next]) k) ∧ Hid (Below w3.heap.size w3 wr)) (fun i _ => len0 - (intOf i).toNat)
  case atStart => exact ⟨0, Nat.zero_le _, rfl, HQ, HB4⟩
  case round =>
    obtain ⟨k, hk, rfl, HW, HBr⟩ := hrel
    by_cases hlt : k < len0
    · obtain ⟨b, off, hx, hbl, hc⟩ := HP0.out.read (by rw [HL.out]; omega)
      subst hx
      have hcell : wr.cell? ⟨b, off + k, none⟩ = some (.int .u64 (xs.getD k 0)) := (HBr.out.cell (p := ⟨b, off + k, none⟩) hbl).trans (hc k (by rw [HL.out]; exact hlt))
      clear hc
      obtain ⟨⟨u, hat⟩, hfz, hnew⟩ := HW.out.step (by omega) (xs.getD k 0) (getD_app xs next k (by rw [HL.out]; exact hlt))
      have R := hid hnew
      have R2 : Hid (Below w3.heap.size w3 (wr.setCell ⟨w3.heap.size, k, none⟩ (.int .u64 (xs.getD k 0)))) := HBr.out.setCell (p := ⟨w3.heap.size, k, none⟩) (Nat.le_refl _) _
      clear hnew
      go_wp2
      go_roundw
      case rel => exact ⟨k + 1, by omega, by go_num, R, R2⟩
      case measure => simp [intOf]; omega
    · have hke : k = len0 := by omega
      subst hke
      obtain ⟨⟨u, hat⟩, hfz, hnew⟩ := HW.out.step (by omega) next (getD_last xs next k HL.out)
      have R0 := hid (Part.full hnew (by simp [HL.out]))
      have R2 : Hid (Below w3.heap.size w3 (wr.setCell ⟨w3.heap.size, k, none⟩ (.int .u64 next))) := HBr.out.setCell (p := ⟨w3.heap.size, k, none⟩) (Nat.le_refl _) _
      clear hnew
      go_wp2_with fail
      generalize wr.setCell ⟨w3.heap.size, k, none⟩ (.int .u64 next) = W5 at R0 R2
      have P0 := hid (HP0.out.below R2.out)
      have P1 := hid (HO1.out.below R2.out)
      have hz35 : w3.heap.size < W5.heap.size := R0.out.lt (by simp)
      have B5 : Hid (Below w'.heap.size w' W5) := HB3.out.trans (R2.out.mono HB3.out.size)
      clear HW HBr hat hfz HP0 HO1 R2 HB4 HQ HB3 HB1 HR1
      refine (newRegistry_any b1 k c1 next com W5).mono ?_
      rintro e W6 ⟨rfl, hW6⟩
      have b56 : Below W5.heap.size W5 W6 := by subst hW6; exact (Below.refl _ _).alloc (Nat.le_refl _) _
      have hR6 : W6.heap[W5.heap.size]? = some (.cells (reg (.slice b1 k c1) next com 0) 62 (0, 0)) := by subst hW6; exact heap_alloc_new _ _
      have hs6 : W6.heap.size = W5.heap.size + 1 := by subst hW6; simp
      have Q0 := hid (P0.out.below b56)
      have Q1 := hid (P1.out.below b56)
      have Q2 := hid (R0.out.below b56)
      have H6 := hid hR6
      have B6 := hid b56
      have S6 := hid hs6
      clear hW6 b56 hR6 hs6 P0 P1 R0
      go_wp2_with fail
      refine (zzUnlisted_len HL.out W5.heap.size b1 c1 next com (by omega) W6 H6.out Q1.out.read (Q1.out.apart (by omega)) Q1.out.nilOf).mono ?_
      rintro e W7 ⟨g1, V1, a1, d1, rfl, hO7, hg1, hV1, hc7, hb7⟩
      rw [HL.out] at hO7 hc7
      have U1 := hid hO7
      have C1 := hid hc7
      have B7 : Hid (Below W5.heap.size W5 W7) := B6.out.trans hb7
      have T0 := hid (Q0.out.of_block (fun h => hb7.block _ (by omega)))
      have T1 := hid (Q1.out.of_block (fun h => hb7.block _ (by omega)))
      have T2 := hid (Q2.out.of_block (fun h => hb7.block _ (by omega)))
      have hV1l : V1 < W7.heap.size := (Array.getElem?_eq_some_iff.1 hc7).1
      have hz67 : W6.heap.size ≤ W7.heap.size := hb7.size
      have hs6 : W5.heap.size < W6.heap.size := by have := S6.out; omega
      clear hO7 hc7 hb7 Q0 Q1 Q2 H6 B6 S6
      go_wp2_with fail
      refine (newRegistry_any (some ⟨w3.heap.size, 0, none⟩) (k + 1) (k + 1) (next + 1) com W7).mono ?_
      rintro e W8 ⟨rfl, hW8⟩
      have b78 : Below W7.heap.size W7 W8 := by subst hW8; exact (Below.refl _ _).alloc (Nat.le_refl _) _
      have hR8 : W8.heap[W7.heap.size]? = some (.cells (reg (.slice (some ⟨w3.heap.size, 0, none⟩) (k + 1) (k + 1)) (next + 1) com 0) 62 (0, 0)) := by subst hW8; exact heap_alloc_new _ _
      have hs8 : W8.heap.size = W7.heap.size + 1 := by subst hW8; simp
      have Q0 := hid (T0.out.below b78)
      have Q1 := hid (T1.out.below b78)
      have Q2 := hid (T2.out.below b78)
      have H8 := hid hR8
      have B8 := hid b78
      have S8 := hid hs8
      have C2 := hid ((b78.block V1 hV1l).trans C1.out)
      clear hW8 b78 hR8 hs8 T0 T1 T2 C1
      go_wp2_with fail
      refine (zzUnlisted_len (xs := xs ++ [next]) (by simp [HL.out]) W7.heap.size (some ⟨w3.heap.size, 0, none⟩) (k + 1) (next + 1) com (by omega) W8 H8.out Q2.out.read (Q2.out.apart (by omega)) Q2.out.nilOf).mono ?_
      rintro e W9 ⟨g2, V2, a2, d2, rfl, hO9, hg2, hV2, hc9, hb9⟩
      have hl1 : (xs ++ [next]).length = k + 1 := by simp [HL.out]
      rw [hl1] at hO9 hc9
      rw [low_app xs next] at hc9
      have U2 := hid hO9
      have B9 : Hid (Below W7.heap.size W7 W9) := B8.out.trans hb9
      have T0 := hid (Q0.out.of_block (fun h => hb9.block _ (by omega)))
      have T1 := hid (Q1.out.of_block (fun h => hb9.block _ (by omega)))
      have T2 := hid (Q2.out.of_block (fun h => hb9.block _ (by omega)))
      have T3 := hid (U1.out.below B9.out)
      have C4 := hid ((hb9.block V1 hV1l).trans C2.out)
      have C3 := hid hc9
      have B10 : Hid (Below w'.heap.size w' W9) := (B5.out.trans (B7.out.mono B5.out.size)).trans (B9.out.mono (by omega))
      have hs8 : W7.heap.size < W8.heap.size := by have := S8.out; omega
      have hg13 : g1 ≠ w3.heap.size := by omega
      have hg12 : g1 ≠ w2.heap.size := by omega
      have hg23 : g2 ≠ w3.heap.size := by omega
      have hg22 : g2 ≠ w2.heap.size := by omega
      have G02 : Hid (0 < k → w'.heap.size ≠ w2.heap.size) := fun h => Nat.ne_of_lt (HG.out h)
      have G03 : Hid (0 < k → w'.heap.size ≠ w3.heap.size) := fun h => by have := HG.out h; omega
      have G32 : Hid (0 < k → w3.heap.size ≠ w2.heap.size) := fun h => by have := GB.out h; omega
      clear hO9 hc9 hb9 hl1 Q0 Q1 Q2 H8 B8 S8 C2 U1 B9 B7 B5 HG GB
      have HLS : Hid (least xs next = xs.getD 0 next) := least_asc HA.out
      clear HA HN HR
      generalize xs.getD 0 next = lo at *
      go_wp2_with fail
      refine (viewFields_any V1 a1 k d1 lo next com W9 C4.out).mono ?_
      rintro e W10 ⟨rfl, n2, rfl⟩
      go_wp2_with fail
      refine (viewFields_any V2 a2 (k + 1) d2 lo (next + 1) com (W9.drewN n2) C3.out).mono ?_
      rintro e W11 ⟨rfl, n3, rfl⟩
      rw [World.drewN_drewN]
      have E0 := hid (T0.out.drewN (n2 + n3))
      have E1 := hid (T1.out.drewN (n2 + n3))
      have E2 := hid (T2.out.drewN (n2 + n3))
      have E3 := hid (T3.out.drewN (n2 + n3))
      have E4 := hid (U2.out.drewN (n2 + n3))
      have B11 : Hid (Below w'.heap.size w' (W9.drewN (n2 + n3))) := below_drewN B10.out _
      clear T0 T1 T2 T3 U2 C3 C4 B10
      generalize W9.drewN (n2 + n3) = W at E0 E1 E2 E3 E4 B11
      go_wp2_with fail
      go_loopw [22] (fun i wr => ∃ (j : Nat) (ys : List Int), j ≤ k ∧ i = .int .i64 j ∧ Hid (ys.length = k) ∧ Hid (Own wr w2.heap.size (.slice b1 k c1) ys) ∧ Hid (wr = W ∨ (0 < k ∧ Only w2.heap.size W wr))) (fun i _ => k - (intOf i).toNat)
      case atStart => exact ⟨0, xs, Nat.zero_le _, rfl, HL, E1, .inl rfl⟩
      case round =>
        obtain ⟨j, ys, hj, rfl, HY, HW2, HO2⟩ := hrel
        by_cases hlt2 : j < k
        · obtain ⟨hb1, hc1, hf1, hst⟩ := HW2.out.store (by rw [HY.out]; exact hlt2)
          subst hb1
          have HST := hid hst
          have HO3 : Hid (Only w2.heap.size W wr) := by
            rcases HO2.out with h | h
            · rw [h]; exact Only.refl _ _
            · exact h.2
          clear hst
          go_wp2
          go_roundw
          case rel => exact ⟨j + 1, _, by omega, by go_num, by rw [Hid, List.length_set]; exact HY.out, HST.out _, .inr ⟨by omega, HO3.out.setCell j _⟩⟩
          case measure => simp [intOf]; omega
        · have F0 := hid (rd_same E0.out HO2.out G02.out HL.out)
          have F3 := hid (own_same E3.out HO2.out (fun _ => hg12))
          have F4 := hid (own_same E4.out HO2.out (fun _ => hg22))
          have F2 := hid (own_same E2.out HO2.out G32.out)
          have F0' := hid (own_same E0.out HO2.out G02.out)
          have B12 := hid (below_same B11.out HO2.out (by omega))
          clear E0 E1 E2 E3 E4 B11 HO2 HW2 HY
          clear F0
          have HL2 : Hid ((xs ++ [next]).length = k + 1) := by simp [Hid, HL.out]
          go_wp2_with fail
          go_loopw [23] (fun i wx => ∃ (j : Nat) (ys : List Int), j ≤ k + 1 ∧ i = .int .i64 j ∧ Hid (ys.length = k + 1) ∧ Hid (Own wx w3.heap.size (.slice (some ⟨w3.heap.size, 0, none⟩) (k + 1) (k + 1)) ys) ∧ Hid (Only w3.heap.size wr wx)) (fun i _ => k + 1 - (intOf i).toNat)
          case atStart => exact ⟨0, _, Nat.zero_le _, rfl, HL2, F2, Only.refl _ _⟩
          case round =>
            obtain ⟨j3, ys3, hj3, rfl, HY3, HW3, HO3⟩ := hrel
            by_cases hlt3 : j3 < k + 1
            · obtain ⟨_, hc3, hf3, hst⟩ := HW3.out.store (by rw [HY3.out]; exact hlt3)
              have HST := hid hst
              clear hst
              go_wp2
              go_roundw
              case rel => exact ⟨j3 + 1, _, by omega, by go_num, by rw [Hid, List.length_set]; exact HY3.out, HST.out _, HO3.out.setCell j3 _⟩
              case measure => simp [intOf]; omega
            · have A0 := hid (rd_apart F0'.out HO3.out (fun h => G03.out (by rw [← HL.out]; exact h)))
              have A1 := hid (F3.out.only HO3.out hg13)
              have A2 := hid (F4.out.only HO3.out hg23)
              have BB : Hid (Below w'.heap.size w' wr) := B12.out.trans (HO3.out.below (by omega))
              clear F0' F3 F4 B12 HO3 HW3 HY3 F2
              go_wp2_with fail
              refine (least_len HL.out b0 c0 next (by omega) wr A0.out HLS.out).mono ?_
              rintro e wl ⟨rfl, rfl⟩
              go_wp2_with fail
              refine (equal_len HL.out a1 b0 d1 c0 (by omega) wl A1.out.read A0.out).mono ?_
              rintro e we ⟨rfl, n4, rfl⟩
              have hk63 : (k : Int) + 1 ≤ 65537 := by omega
              obtain ⟨ha2, hcap2, hc2k⟩ := own_last A2.out HL.out
              subst ha2
              have I0 : (0 : Int) ≤ (k : Int) := by omega
              have I1 : (k : Int) ≤ (d2 : Int) := by omega
              have A3 := hid (rd_prefix A2.out.read)
              have B13 : Hid (Below w'.heap.size w' (wl.drewN n4)) := below_drewN BB.out _
              have A4 := hid (rd_drewN A0.out n4)
              have A5 := hid (rd_drewN A3.out n4)
              clear A1 A2 A0 A3 BB
              go_wp2_with fail
              refine (equal_len HL.out (some ⟨g2, 0, none⟩) b0 d2 c0 (by omega) (wl.drewN n4) A5.out A4.out).mono ?_
              rintro e we ⟨rfl, n5, rfl⟩
              have B14 := hid (below_drewN B13.out n5)
              clear B13 A4 A5
              have I2 : (k : Int) < (k : Int) + 1 := by omega
              go_wp2_with fail
              go_ret
              exact ⟨rfl, by rw [← World.drewN_drewN]; exact B14.out⟩
end Low
end Go.Proofs.Qxb6612602a
