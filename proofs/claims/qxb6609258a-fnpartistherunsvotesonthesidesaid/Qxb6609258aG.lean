import Derived.Test.Qxb6609258aF
namespace Go.Proofs.Qxb6609258a
open Go.ChangeShapes Go.WideShapes Go.ChangeAt Go.RowKit
set_option linter.unusedVariables false

theorem zzpart_lit {p gM n x y z : Nat} {h : Nat → Int} {older : Bool} (hn : n ≤ 4096) (hx : x < n) (hy : y < n) (hz : z < n) {w : World} (hi : Idx w p gM n h) {A B : Nat} {t : Bool} (hp : partOf h x y z older = (A, B, t)) :
    Calls Try.prog 12 #[.pointer (some ⟨p, 0, none⟩), .int .i32 x, .int .i32 y, .int .i32 z, .bool older] w (fun e w' => e = .returned (.tuple #[.int .i32 (A : Int), .int .i32 (B : Int), .bool t]) ∧ Below w.heap.size w w') :=
  (zzpart_any p gM n x y z h older hn hx hy hz w hi).mono fun e w' hh => by
    obtain ⟨he, hb⟩ := hh
    rw [hp] at he
    exact ⟨he, hb⟩

theorem lt_iff {h : Nat → Int} {i j : Nat} : lt h i j = true ↔ (h i < h j ∨ (h i = h j ∧ i < j)) := by simp [lt]
theorem lt_false {h : Nat → Int} {i j : Nat} : lt h i j = false ↔ ¬ (h i < h j ∨ (h i = h j ∧ i < j)) := by
  rw [← Bool.not_eq_true, lt_iff]

/-- THE PLAIN LAW: older and newer split the run at the bound. -/
theorem split_law (h : Nat → Int) (x y z : Nat) (hyx : lt h y x = false) :
    (partOf h x y z true = (x, z, true) ∧ partOf h x y z false = (z, y, true)) ∨ (partOf h x y z true = (x, y, true) ∧ partOf h x y z false = (x, y, false)) ∨
    (partOf h x y z true = (x, y, false) ∧ partOf h x y z false = (x, y, true)) := by
  rw [lt_false] at hyx
  cases e1 : lt h z x
  · cases e3 : lt h y z
    · left
      refine ⟨?_, ?_⟩
      · cases e2 : lt h z y
        · rw [lt_false] at e2 e3
          have : y = z := by omega
          subst this
          simp [partOf, e1]
        · simp [partOf, e1, e2]
      · cases e4 : lt h x z
        · rw [lt_false] at e1 e4
          have : x = z := by omega
          subst this
          simp [partOf, e3]
        · simp [partOf, e3, e4]
    · right; left
      have e2 : lt h z y = false := by rw [lt_false]; rw [lt_iff] at e3; omega
      simp [partOf, e1, e2, e3]
  · right; right
    have e3 : lt h y z = false := by rw [lt_false]; rw [lt_iff] at e1; omega
    have e4 : lt h x z = false := by rw [lt_false]; rw [lt_iff] at e1; omega
    simp [partOf, e1, e3, e4]

def LawEnd (w : World) (e : Ending) (w' : World) : Prop := e = .returned (.bool true) ∧ Below w.heap.size w w'

set_option maxRecDepth 100000 in
set_option maxHeartbeats 4000000 in
theorem law4 (a : Option Addr) (n c : Nat) (fl h : Nat → Int) (x y z : Int) (hx : -2147483648 ≤ x ∧ x ≤ 2147483647) (hy : -2147483648 ≤ y ∧ y ≤ 2147483647) (hz : -2147483648 ≤ z ∧ z ≤ 2147483647) (hm : n ≤ maxLen) (w : World) (hs : 0 < n → Sp w a n fl h) :
    Calls Try.prog 4 #[.slice a n c, .int .i32 x, .int .i32 y, .int .i32 z] w (LawEnd w) := by
  have HS := hid hs
  have HX := hid hx
  have HY := hid hy
  have HZ := hid hz
  have HM := hid hm
  have hm2 : n ≤ 9223372036854775807 := by unfold maxLen at hm; omega
  clear hs hx hy hz hm
  go_enter Try.func4, Try.ntmps4
  go_wp2_with fail
  refine (bytes14_any a n c x y z w HM.out).mono ?_
  rintro e w1 ⟨t, rfl, rfl⟩
  cases t
  · go_wp2_with fail
    go_ret
    exact ⟨rfl, Below.refl _ _⟩
  by_cases hlen : 4096 < n
  · have d1 : decide (4096 < n) = true := by simp; omega
    have d2 : (4096 : Int) < (n : Int) := by omega
    go_wp2_with fail
    go_ret
    exact ⟨rfl, Below.refl _ _⟩
  have d1 : decide (4096 < n) = false := by simp; omega
  have hn : n ≤ 4096 := by omega
  clear hlen
  go_wp2_with fail
  refine (fits_any a n c fl h x y z HX.out HY.out HZ.out hn w1 HS.out).mono ?_
  rintro e w2 ⟨t, rfl, hyes, hb⟩
  have B2 := hid hb
  have YES := hid hyes
  clear hb hyes
  cases t
  · go_wp2_with fail
    go_ret
    exact ⟨rfl, B2.out⟩
  obtain ⟨hx1, hx2, hy1, hy2, hz1, hz2, hlt⟩ := YES.out rfl
  clear YES
  obtain ⟨x, rfl⟩ : ∃ q : Nat, x = (q : Int) := ⟨x.toNat, by omega⟩
  obtain ⟨y, rfl⟩ : ∃ q : Nat, y = (q : Int) := ⟨y.toNat, by omega⟩
  obtain ⟨z, rfl⟩ : ∃ q : Nat, z = (q : Int) := ⟨z.toNat, by omega⟩
  have LT : Hid (lt h y x = false) := hid (by simpa using hlt)
  have PX : Hid (x < n ∧ y < n ∧ z < n) := ⟨by omega, by omega, by omega⟩
  clear hlt hx1 hx2 hy1 hy2 hz1 hz2 d1
  go_wp2_with fail
  refine (split_any a n c fl h hn w2 ((HS.out (Nat.lt_of_le_of_lt (Nat.zero_le _) PX.out.1)).below B2.out)).mono ?_
  rintro e w3 ⟨gF, gH, rfl, _, _, r1, r2, hb⟩
  have R1 := hid r1
  have R2 := hid r2
  have B3 : Hid (Below w1.heap.size w1 w3) := B2.out.trans (hb.mono B2.out.size)
  clear r1 r2 hb B2
  go_wp2_with fail
  refine (order_any gH n h hn w3 R2.out).mono ?_
  rintro e w4 ⟨gP, ps, rfl, _, hp, hperm, hb⟩
  have RP := hid hp
  have RM := hid hperm
  have Q1 := hid (R1.out.below hb)
  have Q2 := hid (R2.out.below hb)
  have B4 : Hid (Below w1.heap.size w1 w4) := B3.out.trans (hb.mono B3.out.size)
  clear hp hperm hb B3 R1 R2
  go_wp2_with fail
  refine (balanced_any gF gH gP n fl h ps hn w4 Q1.out Q2.out RP.out RM.out).mono ?_
  rintro e w5 ⟨gN, gL, gI, r, rfl, hr1, hr2, hN, hG, hb⟩
  have NN := hid hN
  have GG := hid hG
  have B5 : Hid (Below w1.heap.size w1 w5) := B4.out.trans (hb.mono B4.out.size)
  clear hN hG hb B4 Q1 Q2 RP RM
  go_wp2_with fail
  refine (index_any gN n r h hn w5 NN.out GG.out).mono ?_
  rintro e w6 ⟨p, gM, rfl, hi, hb⟩
  have II := hid hi
  have B6 : Hid (Below w1.heap.size w1 w6) := B5.out.trans (hb.mono B5.out.size)
  clear hi hb B5 NN GG
  rcases split_law h x y z LT.out with ⟨p1, p2⟩ | ⟨p1, p2⟩ | ⟨p1, p2⟩
  all_goals
    have P1 := hid p1
    have P2 := hid p2
    clear p1 p2
    go_wp2_with fail
    refine (zzpart_lit hn PX.out.1 PX.out.2.1 PX.out.2.2 II.out P1.out).mono ?_
    rintro e w7 ⟨rfl, hb⟩
    have I7 := hid (II.out.below hb)
    have B7 : Hid (Below w1.heap.size w1 w7) := B6.out.trans (hb.mono B6.out.size)
    clear hb
    go_wp2_with fail
    refine (zzpart_lit hn PX.out.1 PX.out.2.1 PX.out.2.2 I7.out P2.out).mono ?_
    rintro e w8 ⟨rfl, hb⟩
    have B8 : Hid (Below w1.heap.size w1 w8) := B7.out.trans (hb.mono B7.out.size)
    clear hb
    go_wp2_with fail
    go_ret
    exact ⟨rfl, B8.out⟩
end Go.Proofs.Qxb6609258a
