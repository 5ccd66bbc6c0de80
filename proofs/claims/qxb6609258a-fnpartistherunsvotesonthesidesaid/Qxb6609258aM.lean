import Derived.Test.Qxb6609258aK
namespace Go.Proofs.Qxb6609258a
open Go.ChangeShapes Go.WideShapes Go.ChangeAt Go.RowKit
set_option linter.unusedVariables false

set_option maxRecDepth 100000 in
set_option maxHeartbeats 4000000 in
theorem law3 (a : Option Addr) (n c : Nat) (fl h : Nat → Int) (x y z : Int) (older : Bool) (hx : -2147483648 ≤ x ∧ x ≤ 2147483647) (hy : -2147483648 ≤ y ∧ y ≤ 2147483647) (hz : -2147483648 ≤ z ∧ z ≤ 2147483647) (hm : n ≤ maxLen) (w : World) (hs : 0 < n → Sp w a n fl h) :
    Calls Try.prog 3 #[.slice a n c, .int .i32 x, .int .i32 y, .int .i32 z, .bool older] w (LawEnd w) := by
  have HS := hid hs
  have HX := hid hx
  have HY := hid hy
  have HZ := hid hz
  have HM := hid hm
  have hm2 : n ≤ 9223372036854775807 := by unfold maxLen at hm; omega
  clear hs hx hy hz hm
  go_enter Try.func3, Try.ntmps3
  go_wp2_with fail
  refine (bytes6_any a n c x y z older w HM.out).mono ?_
  rintro e w1 ⟨t, rfl, rfl⟩
  cases t
  · go_wp2_with fail
    go_ret
    exact ⟨rfl, Below.refl _ _⟩
  by_cases hlen : 4096 < n
  · have d1 : decide (4096 < n) = true := by simp; omega
    have d2 : (4096 : Int) < (n : Int) := by omega
    go_wp2_with fail
    go_ret
    exact ⟨rfl, Below.refl _ _⟩
  have d1 : decide (4096 < n) = false := by simp; omega
  have hn : n ≤ 4096 := by omega
  clear hlen
  go_wp2_with fail
  refine (fits_any a n c fl h x y z HX.out HY.out HZ.out hn w1 HS.out).mono ?_
  rintro e w2 ⟨t, rfl, hyes, hb⟩
  have B2 := hid hb
  have YES := hid hyes
  clear hb hyes
  cases t
  · go_wp2_with fail
    go_ret
    exact ⟨rfl, B2.out⟩
  obtain ⟨hx1, hx2, hy1, hy2, hz1, hz2, hlt⟩ := YES.out rfl
  clear YES
  obtain ⟨x, rfl⟩ : ∃ q : Nat, x = (q : Int) := ⟨x.toNat, by omega⟩
  obtain ⟨y, rfl⟩ : ∃ q : Nat, y = (q : Int) := ⟨y.toNat, by omega⟩
  obtain ⟨z, rfl⟩ : ∃ q : Nat, z = (q : Int) := ⟨z.toNat, by omega⟩
  have LT : Hid (lt h y x = false) := hid (by simpa using hlt)
  have PX : Hid (x < n ∧ y < n ∧ z < n) := ⟨by omega, by omega, by omega⟩
  clear hlt hx1 hx2 hy1 hy2 hz1 hz2 d1
  go_wp2_with fail
  refine (split_any a n c fl h hn w2 ((HS.out (Nat.lt_of_le_of_lt (Nat.zero_le _) PX.out.1)).below B2.out)).mono ?_
  rintro e w3 ⟨gF, gH, rfl, _, _, r1, r2, hb⟩
  have R1 := hid r1
  have R2 := hid r2
  have B3 : Hid (Below w1.heap.size w1 w3) := B2.out.trans (hb.mono B2.out.size)
  clear r1 r2 hb B2
  go_wp2_with fail
  refine (order_any gH n h hn w3 R2.out).mono ?_
  rintro e w4 ⟨gP, ps, rfl, _, hp, hperm, hb⟩
  have RP := hid hp
  have RM := hid hperm
  have Q1 := hid (R1.out.below hb)
  have Q2 := hid (R2.out.below hb)
  have B4 : Hid (Below w1.heap.size w1 w4) := B3.out.trans (hb.mono B3.out.size)
  clear hp hperm hb B3 R1 R2
  go_wp2_with fail
  refine (balanced_any gF gH gP n fl h ps hn w4 Q1.out Q2.out RP.out RM.out).mono ?_
  rintro e w5 ⟨gN, gL, gI, r, rfl, hr1, hr2, hN, hG, hb⟩
  have NN := hid hN
  have GG := hid hG
  have B5 : Hid (Below w1.heap.size w1 w5) := B4.out.trans (hb.mono B4.out.size)
  have K5 := hid (Q2.out.below hb)
  clear hN hG hb B4 Q1 Q2 RP RM
  go_wp2_with fail
  refine (index_any gN n r h hn w5 NN.out GG.out).mono ?_
  rintro e w6 ⟨p, gM, rfl, hi, hb⟩
  have II := hid hi
  have B6 : Hid (Below w1.heap.size w1 w6) := B5.out.trans (hb.mono B5.out.size)
  have K6 := hid (K5.out.below hb)
  clear hi hb B5 NN GG K5
  obtain ⟨A, B, t, hp⟩ : ∃ A B t, partOf h x y z older = (A, B, t) := ⟨_, _, _, rfl⟩
  have hAB := partOf_lt h x y z n older PX.out.1 PX.out.2.1 PX.out.2.2
  rw [hp] at hAB
  obtain ⟨hA, hB⟩ := hAB
  have hA1 : (A : Int) ≤ 4096 := by have : A < n := hA; omega
  have hB1 : (B : Int) ≤ 4096 := by have : B < n := hB; omega
  have PP := hid hp
  clear hp hA hB
  go_wp2_with fail
  refine (zzpart_lit hn PX.out.1 PX.out.2.1 PX.out.2.2 II.out PP.out).mono ?_
  rintro e w7 ⟨rfl, hb⟩
  have K7 := hid (K6.out.below hb)
  have B7 : Hid (Below w1.heap.size w1 w7) := B6.out.trans (hb.mono B6.out.size)
  clear hb K6 II B6
  have hx3 : (x : Int) ≤ 4096 := by have := PX.out.1; omega
  have hy3 : (y : Int) ≤ 4096 := by have := PX.out.2.1; omega
  have hz3 : (z : Int) ≤ 4096 := by have := PX.out.2.2; omega
  have R : Hid (∀ W', Below w7.heap.size w7 W' → KRow .u64 W' gH n h) := fun W' hb => K7.out.below hb
  clear K7
  go_wp2_with fail
  go_loopw [26, 27, 28, 29] (fun f lo hi j wr => ∃ (fb : Bool) (loN hiN jN : Nat), f = .bool fb ∧ lo = .int .i64 loN ∧ hi = .int .i64 hiN ∧ j = .int .i64 jN ∧ jN ≤ n ∧ Hid (FInv h x y z older jN fb loN hiN) ∧ Hid (Below w7.heap.size w7 wr)) (fun _ _ _ j _ => n - (intOf j).toNat)
  case atStart => exact ⟨false, 0, 0, 0, rfl, rfl, rfl, rfl, Nat.zero_le _, .inl ⟨rfl, fun i hi => absurd hi (by omega)⟩, Below.refl _ _⟩
  case round =>
    obtain ⟨fb, lo, hi, j, rfl, rfl, rfl, rfl, hj, I, BW⟩ := hrel
    by_cases hlt : j < n
    · have hj3 : (j : Int) < (n : Int) := by omega
      have HJ := hid hlt
      cases e1 : lt h j x
      · have E1 := hid e1
        cases e2 : lt h y j
        · have E2 := hid e2
          cases older
          · cases e3 : lt h j z
            · have E3 := hid e3
              have NI : Hid (inB h x y z false j = true) := hid (by simp [inB, e1, e2, e3])
              cases fb
              · have NX := hid (I.out.first NI.out)

                clear e1 e2 e3 NI I
                go_wp2_with fail
                refine (less_lit hn HJ.out PX.out.1 (R.out _ BW.out) E1.out).mono ?_
                rintro e vBW1 ⟨rfl, q, hq⟩
                have BW1 : Hid (Below w7.heap.size w7 vBW1) := hid (by rw [hq]; exact below_drewN BW.out _)
                clear hq
                go_wp2_with fail
                refine (less_lit hn PX.out.2.1 HJ.out (R.out _ BW1.out) E2.out).mono ?_
                rintro e vBW2 ⟨rfl, q, hq⟩
                have BW2 : Hid (Below w7.heap.size w7 vBW2) := hid (by rw [hq]; exact below_drewN BW1.out _)
                clear hq
                go_wp2_with fail
                refine (less_lit hn HJ.out PX.out.2.2 (R.out _ BW2.out) E3.out).mono ?_
                rintro e vBW3 ⟨rfl, q, hq⟩
                have BW3 : Hid (Below w7.heap.size w7 vBW3) := hid (by rw [hq]; exact below_drewN BW2.out _)
                clear hq
                go_wp2_with fail
                go_roundw
                case rel => exact ⟨true, j, j, j + 1, rfl, rfl, rfl, by go_num, by omega, NX, BW3⟩
                case measure => simp [intOf]; omega
              · have hlo : lo < n := by rcases I.out with ⟨q, _⟩ | ⟨_, q, _, _⟩
                                        · cases q
                                        · omega
                have hhi : hi < n := by rcases I.out with ⟨q, _⟩ | ⟨_, _, q, _⟩
                                        · cases q
                                        · omega
                have HLO := hid hlo
                have HHI := hid hhi
                clear hlo hhi
                cases e4 : lt h j lo
                · have E4 := hid e4
                  cases e5 : lt h hi j
                  · have E5 := hid e5
                    have NX := hid (I.out.upd NI.out lo hi (by simp [e4]) (by simp [e5]))

                    clear e1 e2 e3 e4 e5 NI I
                    go_wp2_with fail
                    refine (less_lit hn HJ.out PX.out.1 (R.out _ BW.out) E1.out).mono ?_
                    rintro e vBW1 ⟨rfl, q, hq⟩
                    have BW1 : Hid (Below w7.heap.size w7 vBW1) := hid (by rw [hq]; exact below_drewN BW.out _)
                    clear hq
                    go_wp2_with fail
                    refine (less_lit hn PX.out.2.1 HJ.out (R.out _ BW1.out) E2.out).mono ?_
                    rintro e vBW2 ⟨rfl, q, hq⟩
                    have BW2 : Hid (Below w7.heap.size w7 vBW2) := hid (by rw [hq]; exact below_drewN BW1.out _)
                    clear hq
                    go_wp2_with fail
                    refine (less_lit hn HJ.out PX.out.2.2 (R.out _ BW2.out) E3.out).mono ?_
                    rintro e vBW3 ⟨rfl, q, hq⟩
                    have BW3 : Hid (Below w7.heap.size w7 vBW3) := hid (by rw [hq]; exact below_drewN BW2.out _)
                    clear hq
                    go_wp2_with fail
                    refine (less_lit hn HJ.out HLO.out (R.out _ BW3.out) E4.out).mono ?_
                    rintro e vBW4 ⟨rfl, q, hq⟩
                    have BW4 : Hid (Below w7.heap.size w7 vBW4) := hid (by rw [hq]; exact below_drewN BW3.out _)
                    clear hq
                    go_wp2_with fail
                    refine (less_lit hn HHI.out HJ.out (R.out _ BW4.out) E5.out).mono ?_
                    rintro e vBW5 ⟨rfl, q, hq⟩
                    have BW5 : Hid (Below w7.heap.size w7 vBW5) := hid (by rw [hq]; exact below_drewN BW4.out _)
                    clear hq
                    go_wp2_with fail
                    go_roundw
                    case rel => exact ⟨true, lo, hi, j + 1, rfl, rfl, rfl, by go_num, by omega, NX, BW5⟩
                    case measure => simp [intOf]; omega
                  · have E5 := hid e5
                    have NX := hid (I.out.upd NI.out lo j (by simp [e4]) (by simp [e5]))

                    clear e1 e2 e3 e4 e5 NI I
                    go_wp2_with fail
                    refine (less_lit hn HJ.out PX.out.1 (R.out _ BW.out) E1.out).mono ?_
                    rintro e vBW1 ⟨rfl, q, hq⟩
                    have BW1 : Hid (Below w7.heap.size w7 vBW1) := hid (by rw [hq]; exact below_drewN BW.out _)
                    clear hq
                    go_wp2_with fail
                    refine (less_lit hn PX.out.2.1 HJ.out (R.out _ BW1.out) E2.out).mono ?_
                    rintro e vBW2 ⟨rfl, q, hq⟩
                    have BW2 : Hid (Below w7.heap.size w7 vBW2) := hid (by rw [hq]; exact below_drewN BW1.out _)
                    clear hq
                    go_wp2_with fail
                    refine (less_lit hn HJ.out PX.out.2.2 (R.out _ BW2.out) E3.out).mono ?_
                    rintro e vBW3 ⟨rfl, q, hq⟩
                    have BW3 : Hid (Below w7.heap.size w7 vBW3) := hid (by rw [hq]; exact below_drewN BW2.out _)
                    clear hq
                    go_wp2_with fail
                    refine (less_lit hn HJ.out HLO.out (R.out _ BW3.out) E4.out).mono ?_
                    rintro e vBW4 ⟨rfl, q, hq⟩
                    have BW4 : Hid (Below w7.heap.size w7 vBW4) := hid (by rw [hq]; exact below_drewN BW3.out _)
                    clear hq
                    go_wp2_with fail
                    refine (less_lit hn HHI.out HJ.out (R.out _ BW4.out) E5.out).mono ?_
                    rintro e vBW5 ⟨rfl, q, hq⟩
                    have BW5 : Hid (Below w7.heap.size w7 vBW5) := hid (by rw [hq]; exact below_drewN BW4.out _)
                    clear hq
                    go_wp2_with fail
                    go_roundw
                    case rel => exact ⟨true, lo, j, j + 1, rfl, rfl, rfl, by go_num, by omega, NX, BW5⟩
                    case measure => simp [intOf]; omega
                · have E4 := hid e4
                  cases e5 : lt h hi j
                  · have E5 := hid e5
                    have NX := hid (I.out.upd NI.out j hi (by simp [e4]) (by simp [e5]))

                    clear e1 e2 e3 e4 e5 NI I
                    go_wp2_with fail
                    refine (less_lit hn HJ.out PX.out.1 (R.out _ BW.out) E1.out).mono ?_
                    rintro e vBW1 ⟨rfl, q, hq⟩
                    have BW1 : Hid (Below w7.heap.size w7 vBW1) := hid (by rw [hq]; exact below_drewN BW.out _)
                    clear hq
                    go_wp2_with fail
                    refine (less_lit hn PX.out.2.1 HJ.out (R.out _ BW1.out) E2.out).mono ?_
                    rintro e vBW2 ⟨rfl, q, hq⟩
                    have BW2 : Hid (Below w7.heap.size w7 vBW2) := hid (by rw [hq]; exact below_drewN BW1.out _)
                    clear hq
                    go_wp2_with fail
                    refine (less_lit hn HJ.out PX.out.2.2 (R.out _ BW2.out) E3.out).mono ?_
                    rintro e vBW3 ⟨rfl, q, hq⟩
                    have BW3 : Hid (Below w7.heap.size w7 vBW3) := hid (by rw [hq]; exact below_drewN BW2.out _)
                    clear hq
                    go_wp2_with fail
                    refine (less_lit hn HJ.out HLO.out (R.out _ BW3.out) E4.out).mono ?_
                    rintro e vBW4 ⟨rfl, q, hq⟩
                    have BW4 : Hid (Below w7.heap.size w7 vBW4) := hid (by rw [hq]; exact below_drewN BW3.out _)
                    clear hq
                    go_wp2_with fail
                    refine (less_lit hn HHI.out HJ.out (R.out _ BW4.out) E5.out).mono ?_
                    rintro e vBW5 ⟨rfl, q, hq⟩
                    have BW5 : Hid (Below w7.heap.size w7 vBW5) := hid (by rw [hq]; exact below_drewN BW4.out _)
                    clear hq
                    go_wp2_with fail
                    go_roundw
                    case rel => exact ⟨true, j, hi, j + 1, rfl, rfl, rfl, by go_num, by omega, NX, BW5⟩
                    case measure => simp [intOf]; omega
                  · have E5 := hid e5
                    have NX := hid (I.out.upd NI.out j j (by simp [e4]) (by simp [e5]))

                    clear e1 e2 e3 e4 e5 NI I
                    go_wp2_with fail
                    refine (less_lit hn HJ.out PX.out.1 (R.out _ BW.out) E1.out).mono ?_
                    rintro e vBW1 ⟨rfl, q, hq⟩
                    have BW1 : Hid (Below w7.heap.size w7 vBW1) := hid (by rw [hq]; exact below_drewN BW.out _)
                    clear hq
                    go_wp2_with fail
                    refine (less_lit hn PX.out.2.1 HJ.out (R.out _ BW1.out) E2.out).mono ?_
                    rintro e vBW2 ⟨rfl, q, hq⟩
                    have BW2 : Hid (Below w7.heap.size w7 vBW2) := hid (by rw [hq]; exact below_drewN BW1.out _)
                    clear hq
                    go_wp2_with fail
                    refine (less_lit hn HJ.out PX.out.2.2 (R.out _ BW2.out) E3.out).mono ?_
                    rintro e vBW3 ⟨rfl, q, hq⟩
                    have BW3 : Hid (Below w7.heap.size w7 vBW3) := hid (by rw [hq]; exact below_drewN BW2.out _)
                    clear hq
                    go_wp2_with fail
                    refine (less_lit hn HJ.out HLO.out (R.out _ BW3.out) E4.out).mono ?_
                    rintro e vBW4 ⟨rfl, q, hq⟩
                    have BW4 : Hid (Below w7.heap.size w7 vBW4) := hid (by rw [hq]; exact below_drewN BW3.out _)
                    clear hq
                    go_wp2_with fail
                    refine (less_lit hn HHI.out HJ.out (R.out _ BW4.out) E5.out).mono ?_
                    rintro e vBW5 ⟨rfl, q, hq⟩
                    have BW5 : Hid (Below w7.heap.size w7 vBW5) := hid (by rw [hq]; exact below_drewN BW4.out _)
                    clear hq
                    go_wp2_with fail
                    go_roundw
                    case rel => exact ⟨true, j, j, j + 1, rfl, rfl, rfl, by go_num, by omega, NX, BW5⟩
                    case measure => simp [intOf]; omega
            · have E3 := hid e3
              have NI : Hid (inB h x y z false j = false) := hid (by simp [inB, e1, e2, e3])
              have NX := hid (I.out.skip NI.out)
              clear e1 e2 e3 NI I
              go_wp2_with fail
              refine (less_lit hn HJ.out PX.out.1 (R.out _ BW.out) E1.out).mono ?_
              rintro e vBW1 ⟨rfl, q, hq⟩
              have BW1 : Hid (Below w7.heap.size w7 vBW1) := hid (by rw [hq]; exact below_drewN BW.out _)
              clear hq
              go_wp2_with fail
              refine (less_lit hn PX.out.2.1 HJ.out (R.out _ BW1.out) E2.out).mono ?_
              rintro e vBW2 ⟨rfl, q, hq⟩
              have BW2 : Hid (Below w7.heap.size w7 vBW2) := hid (by rw [hq]; exact below_drewN BW1.out _)
              clear hq
              go_wp2_with fail
              refine (less_lit hn HJ.out PX.out.2.2 (R.out _ BW2.out) E3.out).mono ?_
              rintro e vBW3 ⟨rfl, q, hq⟩
              have BW3 : Hid (Below w7.heap.size w7 vBW3) := hid (by rw [hq]; exact below_drewN BW2.out _)
              clear hq
              go_wp2_with fail
              go_roundw
              case rel => exact ⟨fb, lo, hi, j + 1, rfl, rfl, rfl, by go_num, by omega, NX, BW3⟩
              case measure => simp [intOf]; omega
          · cases e3 : lt h z j
            · have E3 := hid e3
              have NI : Hid (inB h x y z true j = true) := hid (by simp [inB, e1, e2, e3])
              cases fb
              · have NX := hid (I.out.first NI.out)

                clear e1 e2 e3 NI I
                go_wp2_with fail
                refine (less_lit hn HJ.out PX.out.1 (R.out _ BW.out) E1.out).mono ?_
                rintro e vBW1 ⟨rfl, q, hq⟩
                have BW1 : Hid (Below w7.heap.size w7 vBW1) := hid (by rw [hq]; exact below_drewN BW.out _)
                clear hq
                go_wp2_with fail
                refine (less_lit hn PX.out.2.1 HJ.out (R.out _ BW1.out) E2.out).mono ?_
                rintro e vBW2 ⟨rfl, q, hq⟩
                have BW2 : Hid (Below w7.heap.size w7 vBW2) := hid (by rw [hq]; exact below_drewN BW1.out _)
                clear hq
                go_wp2_with fail
                refine (less_lit hn PX.out.2.2 HJ.out (R.out _ BW2.out) E3.out).mono ?_
                rintro e vBW3 ⟨rfl, q, hq⟩
                have BW3 : Hid (Below w7.heap.size w7 vBW3) := hid (by rw [hq]; exact below_drewN BW2.out _)
                clear hq
                go_wp2_with fail
                go_roundw
                case rel => exact ⟨true, j, j, j + 1, rfl, rfl, rfl, by go_num, by omega, NX, BW3⟩
                case measure => simp [intOf]; omega
              · have hlo : lo < n := by rcases I.out with ⟨q, _⟩ | ⟨_, q, _, _⟩
                                        · cases q
                                        · omega
                have hhi : hi < n := by rcases I.out with ⟨q, _⟩ | ⟨_, _, q, _⟩
                                        · cases q
                                        · omega
                have HLO := hid hlo
                have HHI := hid hhi
                clear hlo hhi
                cases e4 : lt h j lo
                · have E4 := hid e4
                  cases e5 : lt h hi j
                  · have E5 := hid e5
                    have NX := hid (I.out.upd NI.out lo hi (by simp [e4]) (by simp [e5]))

                    clear e1 e2 e3 e4 e5 NI I
                    go_wp2_with fail
                    refine (less_lit hn HJ.out PX.out.1 (R.out _ BW.out) E1.out).mono ?_
                    rintro e vBW1 ⟨rfl, q, hq⟩
                    have BW1 : Hid (Below w7.heap.size w7 vBW1) := hid (by rw [hq]; exact below_drewN BW.out _)
                    clear hq
                    go_wp2_with fail
                    refine (less_lit hn PX.out.2.1 HJ.out (R.out _ BW1.out) E2.out).mono ?_
                    rintro e vBW2 ⟨rfl, q, hq⟩
                    have BW2 : Hid (Below w7.heap.size w7 vBW2) := hid (by rw [hq]; exact below_drewN BW1.out _)
                    clear hq
                    go_wp2_with fail
                    refine (less_lit hn PX.out.2.2 HJ.out (R.out _ BW2.out) E3.out).mono ?_
                    rintro e vBW3 ⟨rfl, q, hq⟩
                    have BW3 : Hid (Below w7.heap.size w7 vBW3) := hid (by rw [hq]; exact below_drewN BW2.out _)
                    clear hq
                    go_wp2_with fail
                    refine (less_lit hn HJ.out HLO.out (R.out _ BW3.out) E4.out).mono ?_
                    rintro e vBW4 ⟨rfl, q, hq⟩
                    have BW4 : Hid (Below w7.heap.size w7 vBW4) := hid (by rw [hq]; exact below_drewN BW3.out _)
                    clear hq
                    go_wp2_with fail
                    refine (less_lit hn HHI.out HJ.out (R.out _ BW4.out) E5.out).mono ?_
                    rintro e vBW5 ⟨rfl, q, hq⟩
                    have BW5 : Hid (Below w7.heap.size w7 vBW5) := hid (by rw [hq]; exact below_drewN BW4.out _)
                    clear hq
                    go_wp2_with fail
                    go_roundw
                    case rel => exact ⟨true, lo, hi, j + 1, rfl, rfl, rfl, by go_num, by omega, NX, BW5⟩
                    case measure => simp [intOf]; omega
                  · have E5 := hid e5
                    have NX := hid (I.out.upd NI.out lo j (by simp [e4]) (by simp [e5]))

                    clear e1 e2 e3 e4 e5 NI I
                    go_wp2_with fail
                    refine (less_lit hn HJ.out PX.out.1 (R.out _ BW.out) E1.out).mono ?_
                    rintro e vBW1 ⟨rfl, q, hq⟩
                    have BW1 : Hid (Below w7.heap.size w7 vBW1) := hid (by rw [hq]; exact below_drewN BW.out _)
                    clear hq
                    go_wp2_with fail
                    refine (less_lit hn PX.out.2.1 HJ.out (R.out _ BW1.out) E2.out).mono ?_
                    rintro e vBW2 ⟨rfl, q, hq⟩
                    have BW2 : Hid (Below w7.heap.size w7 vBW2) := hid (by rw [hq]; exact below_drewN BW1.out _)
                    clear hq
                    go_wp2_with fail
                    refine (less_lit hn PX.out.2.2 HJ.out (R.out _ BW2.out) E3.out).mono ?_
                    rintro e vBW3 ⟨rfl, q, hq⟩
                    have BW3 : Hid (Below w7.heap.size w7 vBW3) := hid (by rw [hq]; exact below_drewN BW2.out _)
                    clear hq
                    go_wp2_with fail
                    refine (less_lit hn HJ.out HLO.out (R.out _ BW3.out) E4.out).mono ?_
                    rintro e vBW4 ⟨rfl, q, hq⟩
                    have BW4 : Hid (Below w7.heap.size w7 vBW4) := hid (by rw [hq]; exact below_drewN BW3.out _)
                    clear hq
                    go_wp2_with fail
                    refine (less_lit hn HHI.out HJ.out (R.out _ BW4.out) E5.out).mono ?_
                    rintro e vBW5 ⟨rfl, q, hq⟩
                    have BW5 : Hid (Below w7.heap.size w7 vBW5) := hid (by rw [hq]; exact below_drewN BW4.out _)
                    clear hq
                    go_wp2_with fail
                    go_roundw
                    case rel => exact ⟨true, lo, j, j + 1, rfl, rfl, rfl, by go_num, by omega, NX, BW5⟩
                    case measure => simp [intOf]; omega
                · have E4 := hid e4
                  cases e5 : lt h hi j
                  · have E5 := hid e5
                    have NX := hid (I.out.upd NI.out j hi (by simp [e4]) (by simp [e5]))

                    clear e1 e2 e3 e4 e5 NI I
                    go_wp2_with fail
                    refine (less_lit hn HJ.out PX.out.1 (R.out _ BW.out) E1.out).mono ?_
                    rintro e vBW1 ⟨rfl, q, hq⟩
                    have BW1 : Hid (Below w7.heap.size w7 vBW1) := hid (by rw [hq]; exact below_drewN BW.out _)
                    clear hq
                    go_wp2_with fail
                    refine (less_lit hn PX.out.2.1 HJ.out (R.out _ BW1.out) E2.out).mono ?_
                    rintro e vBW2 ⟨rfl, q, hq⟩
                    have BW2 : Hid (Below w7.heap.size w7 vBW2) := hid (by rw [hq]; exact below_drewN BW1.out _)
                    clear hq
                    go_wp2_with fail
                    refine (less_lit hn PX.out.2.2 HJ.out (R.out _ BW2.out) E3.out).mono ?_
                    rintro e vBW3 ⟨rfl, q, hq⟩
                    have BW3 : Hid (Below w7.heap.size w7 vBW3) := hid (by rw [hq]; exact below_drewN BW2.out _)
                    clear hq
                    go_wp2_with fail
                    refine (less_lit hn HJ.out HLO.out (R.out _ BW3.out) E4.out).mono ?_
                    rintro e vBW4 ⟨rfl, q, hq⟩
                    have BW4 : Hid (Below w7.heap.size w7 vBW4) := hid (by rw [hq]; exact below_drewN BW3.out _)
                    clear hq
                    go_wp2_with fail
                    refine (less_lit hn HHI.out HJ.out (R.out _ BW4.out) E5.out).mono ?_
                    rintro e vBW5 ⟨rfl, q, hq⟩
                    have BW5 : Hid (Below w7.heap.size w7 vBW5) := hid (by rw [hq]; exact below_drewN BW4.out _)
                    clear hq
                    go_wp2_with fail
                    go_roundw
                    case rel => exact ⟨true, j, hi, j + 1, rfl, rfl, rfl, by go_num, by omega, NX, BW5⟩
                    case measure => simp [intOf]; omega
                  · have E5 := hid e5
                    have NX := hid (I.out.upd NI.out j j (by simp [e4]) (by simp [e5]))

                    clear e1 e2 e3 e4 e5 NI I
                    go_wp2_with fail
                    refine (less_lit hn HJ.out PX.out.1 (R.out _ BW.out) E1.out).mono ?_
                    rintro e vBW1 ⟨rfl, q, hq⟩
                    have BW1 : Hid (Below w7.heap.size w7 vBW1) := hid (by rw [hq]; exact below_drewN BW.out _)
                    clear hq
                    go_wp2_with fail
                    refine (less_lit hn PX.out.2.1 HJ.out (R.out _ BW1.out) E2.out).mono ?_
                    rintro e vBW2 ⟨rfl, q, hq⟩
                    have BW2 : Hid (Below w7.heap.size w7 vBW2) := hid (by rw [hq]; exact below_drewN BW1.out _)
                    clear hq
                    go_wp2_with fail
                    refine (less_lit hn PX.out.2.2 HJ.out (R.out _ BW2.out) E3.out).mono ?_
                    rintro e vBW3 ⟨rfl, q, hq⟩
                    have BW3 : Hid (Below w7.heap.size w7 vBW3) := hid (by rw [hq]; exact below_drewN BW2.out _)
                    clear hq
                    go_wp2_with fail
                    refine (less_lit hn HJ.out HLO.out (R.out _ BW3.out) E4.out).mono ?_
                    rintro e vBW4 ⟨rfl, q, hq⟩
                    have BW4 : Hid (Below w7.heap.size w7 vBW4) := hid (by rw [hq]; exact below_drewN BW3.out _)
                    clear hq
                    go_wp2_with fail
                    refine (less_lit hn HHI.out HJ.out (R.out _ BW4.out) E5.out).mono ?_
                    rintro e vBW5 ⟨rfl, q, hq⟩
                    have BW5 : Hid (Below w7.heap.size w7 vBW5) := hid (by rw [hq]; exact below_drewN BW4.out _)
                    clear hq
                    go_wp2_with fail
                    go_roundw
                    case rel => exact ⟨true, j, j, j + 1, rfl, rfl, rfl, by go_num, by omega, NX, BW5⟩
                    case measure => simp [intOf]; omega
            · have E3 := hid e3
              have NI : Hid (inB h x y z true j = false) := hid (by simp [inB, e1, e2, e3])
              have NX := hid (I.out.skip NI.out)
              clear e1 e2 e3 NI I
              go_wp2_with fail
              refine (less_lit hn HJ.out PX.out.1 (R.out _ BW.out) E1.out).mono ?_
              rintro e vBW1 ⟨rfl, q, hq⟩
              have BW1 : Hid (Below w7.heap.size w7 vBW1) := hid (by rw [hq]; exact below_drewN BW.out _)
              clear hq
              go_wp2_with fail
              refine (less_lit hn PX.out.2.1 HJ.out (R.out _ BW1.out) E2.out).mono ?_
              rintro e vBW2 ⟨rfl, q, hq⟩
              have BW2 : Hid (Below w7.heap.size w7 vBW2) := hid (by rw [hq]; exact below_drewN BW1.out _)
              clear hq
              go_wp2_with fail
              refine (less_lit hn PX.out.2.2 HJ.out (R.out _ BW2.out) E3.out).mono ?_
              rintro e vBW3 ⟨rfl, q, hq⟩
              have BW3 : Hid (Below w7.heap.size w7 vBW3) := hid (by rw [hq]; exact below_drewN BW2.out _)
              clear hq
              go_wp2_with fail
              go_roundw
              case rel => exact ⟨fb, lo, hi, j + 1, rfl, rfl, rfl, by go_num, by omega, NX, BW3⟩
              case measure => simp [intOf]; omega
        · have E2 := hid e2
          have NI : Hid (inB h x y z older j = false) := hid (by simp [inB, e1, e2])
          have NX := hid (I.out.skip NI.out)
          clear e1 e2 NI I
          go_wp2_with fail
          refine (less_lit hn HJ.out PX.out.1 (R.out _ BW.out) E1.out).mono ?_
          rintro e vBW1 ⟨rfl, q, hq⟩
          have BW1 : Hid (Below w7.heap.size w7 vBW1) := hid (by rw [hq]; exact below_drewN BW.out _)
          clear hq
          go_wp2_with fail
          refine (less_lit hn PX.out.2.1 HJ.out (R.out _ BW1.out) E2.out).mono ?_
          rintro e vBW2 ⟨rfl, q, hq⟩
          have BW2 : Hid (Below w7.heap.size w7 vBW2) := hid (by rw [hq]; exact below_drewN BW1.out _)
          clear hq
          go_wp2_with fail
          go_roundw
          case rel => exact ⟨fb, lo, hi, j + 1, rfl, rfl, rfl, by go_num, by omega, NX, BW2⟩
          case measure => simp [intOf]; omega
      · have E1 := hid e1
        have NI : Hid (inB h x y z older j = false) := hid (by simp [inB, e1])
        clear e1
        have NX := hid (I.out.skip NI.out)
        clear NI I
        go_wp2_with fail
        refine (less_lit hn HJ.out PX.out.1 (R.out _ BW.out) E1.out).mono ?_
        rintro e vBW1 ⟨rfl, q, hq⟩
        have BW1 : Hid (Below w7.heap.size w7 vBW1) := hid (by rw [hq]; exact below_drewN BW.out _)
        clear hq
        go_wp2_with fail
        go_roundw
        case rel => exact ⟨fb, lo, hi, j + 1, rfl, rfl, rfl, by go_num, by omega, NX, BW1⟩
        case measure => simp [intOf]; omega
    · have hjn : j = n := by omega
      have LA : Hid ((A, B, t) = if fb then (lo, hi, true) else (x, y, false)) := hid (PP.out.symm.trans (FInv.last (n := j) I.out (hjn ▸ PX.out.1) (hjn ▸ PX.out.2.1) (hjn ▸ PX.out.2.2) LT.out))
      have BE : Hid (Below w1.heap.size w1 wr) := hid (B7.out.trans (BW.out.mono B7.out.size))
      clear I BW R B7 LT PP
      have d1 : decide (j < n) = false := by simp; omega
      cases fb
      · have hq : A = x ∧ B = y ∧ t = false := by
          have := LA.out
          simpa using this
        obtain ⟨rfl, rfl, rfl⟩ := hq
        clear LA
        go_wp2_with fail
        go_ret
        exact ⟨rfl, BE.out⟩
      · have hq : A = lo ∧ B = hi ∧ t = true := by
          have := LA.out
          simpa using this
        obtain ⟨rfl, rfl, rfl⟩ := hq
        clear LA
        go_wp2_with fail
        go_ret
        exact ⟨rfl, BE.out⟩
end Go.Proofs.Qxb6609258a
