import Derived.Test.Qxb6612550aRows
import Derived.WalkKit
import Derived.ProofKit
import Derived.WalkSpells
import Derived.WalkLawsBesides
import Derived.ShutString
import Derived.Below
namespace Go.Proofs.Qxb6612550a
open Go.ChangeShapes Go.WideShapes Go.ChangeAt Go.RowKit
set_option linter.unusedVariables false

/-- What the walk is told of the slice of slices: nil, or a row of slices. -/
def IsRows (w : World) (a : Option Addr) (len : Nat) : Prop :=
  (a = none ∧ len = 0) ∨ ∃ z : Addr, a = some z ∧ ∀ i, i < len → ∃ b off, z = ⟨b, off, none⟩ ∧ ∃ x l c, w.cell? ⟨b, off + i, none⟩ = some (.slice x l c)

theorem zzAdd_any (n k : Int) (hn : 0 ≤ n) (hn2 : n ≤ 1048577) (hk : 0 ≤ k) (w : World) :
    Calls Try.prog 8 #[.int .i64 n, .int .i64 k] w fun e w' => ∃ m : Int, e = .returned (.int .i64 m) ∧ 0 ≤ m ∧ m ≤ 1048577 ∧ w' = w := by
  by_cases h1 : 1048576 < k
  · have hd : decide (k < 0) = false := by simp; omega
    have hd1 : decide (1048576 < k) = true := by simp; omega
    go_enter Try.func8, Try.ntmps8
    go_wp2
    go_ret
    exact ⟨_, rfl, by omega, by omega, rfl⟩
  · have hd : decide (k < 0) = false := by simp; omega
    have hd1 : decide (1048576 < k) = false := by simp; omega
    by_cases h2 : 1048576 - k < n
    · go_enter Try.func8, Try.ntmps8
      go_wp2
      go_ret
      exact ⟨_, rfl, by omega, by omega, rfl⟩
    · go_enter Try.func8, Try.ntmps8
      go_wp2
      go_ret
      exact ⟨_, rfl, by omega, by omega, rfl⟩

set_option maxHeartbeats 400000 in
theorem pinsSize_any (n : Int) (hn : 0 ≤ n) (hn2 : n ≤ 1048577) (a : Option Addr) (len cap : Nat) (hlen : len ≤ 1048576) (w : World) (hr : IsRows w a len) :
    Calls Try.prog 9 #[.int .i64 n, .slice a len cap] w fun e w' => ∃ m : Int, e = .returned (.int .i64 m) ∧ 0 ≤ m ∧ m ≤ 1048577 ∧ w' = w := by
  have H : Hid (IsRows w a len) := hr
  clear hr
  go_enter Try.func9, Try.ntmps9
  go_wp2
  go_loop [0, 5] (fun t i => ∃ (k : Nat) (q : Int), k ≤ len ∧ i = .int .i64 k ∧ t = .int .i64 q ∧ 0 ≤ q ∧ q ≤ 1048577) (fun _ i => len - (intOf i).toNat)
  case atStart => exact ⟨0, n, Nat.zero_le _, rfl, rfl, hn, hn2⟩
  case round =>
    obtain ⟨k, q, hk, rfl, rfl, hq, hq2⟩ := hrel
    by_cases hlt : k < len
    · by_cases hq3 : q ≤ 1048576
      · rcases H.out with ⟨_, h0⟩ | ⟨z, hab, hc⟩
        · omega
        subst hab
        obtain ⟨b, off, hz, x, l, c, hcell⟩ := hc k hlt
        subst hz
        clear hc
        go_wp2_with (go_at_call 8; refine (zzAdd_any _ _ (by omega) (by omega) (by omega) _).mono ?_; rintro e w' ⟨m, rfl, hm, hm2, rfl⟩)
        go_round
        case rel => exact ⟨k + 1, _, by omega, by go_num, rfl, by omega, by omega⟩
        case measure => simp [intOf]; omega
      · go_wp2
        go_ret
        exact ⟨_, rfl, by omega, by omega, rfl⟩
    · have hd : decide ((k : Int) < (len : Int)) = false := by simp; omega
      go_wp2
      go_ret
      exact ⟨_, rfl, by omega, by omega, rfl⟩

set_option maxHeartbeats 400000 in
theorem serverSize_any (s0 s1 s2 s3 : ByteArray) (a : Option Addr) (len cap : Nat) (hlen : len ≤ 1048576) (w : World) (hr : IsRows w a len) :
    Calls Try.prog 5 #[.string s0, .string s1, .string s2, .string s3, .slice a len cap] w fun e w' => ∃ m : Int, e = .returned (.int .i64 m) ∧ 0 ≤ m ∧ m ≤ 1048577 ∧ w' = w := by
  go_enter Try.func5, Try.ntmps5
  go_wp2_with (first | (go_at_call 8; refine (zzAdd_any _ _ (by omega) (by omega) (by omega) _).mono ?_; rintro e w' ⟨m, rfl, hm, hm2, rfl⟩) | (go_at_call 9; refine (pinsSize_any _ (by omega) (by omega) _ _ _ hlen _ hr).mono ?_; rintro e w' ⟨m, rfl, hm, hm2, rfl⟩))
  go_ret
  exact ⟨_, rfl, by omega, by omega, rfl⟩

def BytesEnd (len : Nat) (w : World) (e : Ending) (w' : World) : Prop := ∃ t : Bool, e = .returned (.bool t) ∧ (t = true → len ≤ 1048576) ∧ w' = w
theorem BytesEnd.no (len : Nat) (w : World) (e : Ending) (he : e = .returned (.bool false)) : BytesEnd len w e w := ⟨false, he, by simp, rfl⟩
theorem BytesEnd.yes (len : Nat) (w : World) (e : Ending) (he : e = .returned (.bool true)) (h : len ≤ 1048576) : BytesEnd len w e w := ⟨true, he, fun _ => h, rfl⟩

set_option maxHeartbeats 1000000 in
theorem bytes_any (s0 s1 s2 s3 : ByteArray) (r : Option Addr) (a : Option Addr) (len cap : Nat) (w : World) (hr : IsRows w a len) :
    Calls Try.prog 4 #[.string s0, .string s1, .string s2, .string s3, .pointer r, .slice a len cap] w (BytesEnd len w) := by
  have H : Hid (IsRows w a len) := hr
  clear hr
  go_enter Try.func4, Try.ntmps4
  go_wp2
  all_goals first
    | (go_ret; exact BytesEnd.no _ _ _ rfl)
    | skip
  go_loop [13, 14] (fun t i => ∃ (k : Nat) (q : Int), k ≤ len ∧ i = .int .i64 k ∧ t = .int .i64 q ∧ 0 ≤ q ∧ q ≤ 1048576) (fun _ i => len - (intOf i).toNat)
  case atStart => exact ⟨0, _, Nat.zero_le _, rfl, rfl, by omega, by omega⟩
  case round =>
    obtain ⟨k, q, hk, rfl, rfl, hq, hq2⟩ := hrel
    by_cases hlt : k < len
    · rcases H.out with ⟨_, h0⟩ | ⟨z, hab, hc⟩
      · omega
      subst hab
      obtain ⟨b, off, hz, x, l, c, hcell⟩ := hc k hlt
      subst hz
      clear hc
      go_wp2
      all_goals first
        | (go_ret; exact BytesEnd.no _ _ _ rfl)
        | (go_round
           case rel => exact ⟨k + 1, _, by omega, by go_num, rfl, by omega, by omega⟩
           case measure => simp [intOf]; omega)
    · go_wp2
      go_ret
      exact BytesEnd.yes _ _ _ rfl (by omega)

theorem info36 : (Try.prog.info? 36).map (fun i => (i.zero, i.size, i.bytes)) = some (some (.slice none 0 0), 1, 24) := by kernel_rfl

set_option maxHeartbeats 400000 in
theorem pins_any (a : Option Addr) (len cap : Nat) (hlen : len ≤ 1048576) (w : World) (hr : IsRows w a len) (hlo : ∀ b off, a = some ⟨b, off, none⟩ → 0 < len → b < w.heap.size) :
    Calls Try.prog 10 #[.slice a len cap] w fun e w' => ∃ x l c, e = .returned (.slice x l c) ∧ Below w.heap.size w w' := by
  have hnil := fun (w : World) (a : Option Addr) (n c : Nat) => Lib.run_eql_slice_nil (P := Try.prog) w 23 29 a n c 0 0 Try.underlying23
  rcases hr with ⟨rfl, rfl⟩ | ⟨z, rfl, hc⟩
  · go_enter Try.func10, Try.ntmps10
    go_wp2
    go_ret
    exact ⟨_, _, _, rfl, Below.refl _ _⟩
  · have HC := hc
    have HL : Hid (∀ b off, some z = some ⟨b, off, none⟩ → 0 < len → b < w.heap.size) := hlo
    have HC' : Hid (∀ i, i < len → ∃ b off, z = ⟨b, off, none⟩ ∧ ∃ x l c, w.cell? ⟨b, off + i, none⟩ = some (.slice x l c)) := HC
    clear hc hlo HC
    obtain ⟨i0, hi, hz0, hz1, hz2⟩ := info_parts info36
    go_enter Try.func10, Try.ntmps10
    go_wp2_with (at_make; refine wpList_make_full _ rfl (.tmp 8) (.tmp 8) 32 rfl w.heap.size 36 i0 (.slice none 0 0) 1 Try.underlying32 hi hz0 hz1 .i64 .i64 _ _ len rfl rfl (by omega) (by omega) (by rw [hz2]; omega) (by unfold maxLen; omega) (Nat.le_refl _) ?_; intro w1 hown hgrow)
    have hb1 : Below w.heap.size w w1 := (Below.refl _ w).grown hgrow (Nat.le_refl _) (by intro k h; cases h)
    have HO : Hid (∃ xs, w1.ownsRow w.heap.size 36 1 (.slice (some ⟨w.heap.size, 0, none⟩) len len) len xs) := ⟨_, hown⟩
    clear hown hgrow hi hz0 hz1 hz2
    go_loopw [4] (fun i wr => ∃ k : Nat, k ≤ len ∧ i = .int .i64 k ∧ Hid (∃ xs, wr.ownsRow w.heap.size 36 1 (.slice (some ⟨w.heap.size, 0, none⟩) len len) len xs) ∧ Below w.heap.size w wr) (fun i _ => len - (intOf i).toNat)
    case atStart => exact ⟨0, Nat.zero_le _, rfl, HO, hb1⟩
    case round =>
      obtain ⟨k, hk, rfl, HW, hb⟩ := hrel
      by_cases hlt : k < len
      · obtain ⟨b, off, hz, x, l, c, hcell0⟩ := HC'.out k hlt
        subst hz
        have hbl := HL.out b off rfl (by omega)
        have hcell : wr.cell? ⟨b, off + k, none⟩ = some (.slice x l c) := (hb.cell (p := ⟨b, off + k, none⟩) hbl).trans hcell0
        obtain ⟨xs, hown⟩ := HW.out
        have hfz := hown.frozenAt k
        have hat := hown.cellAt k (by omega)
        have hxl : k < xs.length := by rw [hown.1]; omega
        rw [List.getElem?_eq_getElem hxl] at hat
        have st := hown.stored k (.slice x l c)
        have hb2 : Below w.heap.size w (wr.setCell ⟨w.heap.size, k, none⟩ (.slice x l c)) := hb.setCell (Nat.le_refl _) _
        have R : Hid (Hid (∃ xs, (wr.setCell ⟨w.heap.size, k, none⟩ (.slice x l c)).ownsRow w.heap.size 36 1 (.slice (some ⟨w.heap.size, 0, none⟩) len len) len xs) ∧ Below w.heap.size w (wr.setCell ⟨w.heap.size, k, none⟩ (.slice x l c))) := ⟨⟨_, st.1⟩, hb2⟩
        clear st hb2 hown hcell0
        go_wp2
        go_roundw
        case rel => exact ⟨k + 1, by omega, by go_num, R.out.1, R.out.2⟩
        case measure => simp [intOf]; omega
      · go_wp2
        go_ret
        exact ⟨_, _, _, rfl, hb⟩

set_option maxHeartbeats 400000 in
theorem server_any (s0 s1 s2 s3 : ByteArray) (r : Option Addr) (a : Option Addr) (len cap : Nat) (hlen : len ≤ 1048576) (w : World) (hr : IsRows w a len) (hlo : ∀ b off, a = some ⟨b, off, none⟩ → 0 < len → b < w.heap.size) :
    Calls Try.prog 6 #[.string s0, .string s1, .string s2, .string s3, .pointer r, .slice a len cap] w fun e w' => ∃ B, e = .returned (.pointer (some ⟨B, 0, none⟩)) ∧ w.heap.size ≤ B ∧ B < w'.heap.size ∧ w'.cell? ⟨B, 4, none⟩ = some (.pointer r) ∧ Below w.heap.size w w' := by
  go_enter Try.func6, Try.ntmps6
  go_wp2_with (go_at_call 10; refine (pins_any _ _ _ hlen _ hr hlo).mono ?_; rintro e w1 ⟨x, l, c, rfl, hb⟩)
  go_ret
  exact ⟨w1.heap.size, rfl, hb.size, by simp, by simp [go_sem], hb.alloc hb.size _⟩

theorem required_nil (B : Nat) (w : World) (h : w.cell? ⟨B, 4, none⟩ = some (.pointer none)) :
    Calls Try.prog 7 #[.pointer (some ⟨B, 0, none⟩)] w fun e w' => e = .returned (.bool true) ∧ w' = w := by
  go_enter Try.func7, Try.ntmps7
  go_wp2
  go_ret
  exact ⟨rfl, rfl⟩

theorem required_set (B : Nat) (w : World) (x : Addr) (t : Bool) (h : w.cell? ⟨B, 4, none⟩ = some (.pointer (some x))) (hx : w.cell? x = some (.bool t)) :
    Calls Try.prog 7 #[.pointer (some ⟨B, 0, none⟩)] w fun e w' => e = .returned (.bool t) ∧ w' = w := by
  go_enter Try.func7, Try.ntmps7
  go_wp2
  go_ret
  exact ⟨rfl, rfl⟩

def LowRows (w : World) (a : Option Addr) (len : Nat) : Prop := ∀ b off, a = some ⟨b, off, none⟩ → 0 < len → b < w.heap.size

theorem LowRows.below {w w' : World} {a : Option Addr} {len : Nat} (hlo : LowRows w a len) (hb : Below w.heap.size w w') : LowRows w' a len :=
  fun b off h h0 => Nat.lt_of_lt_of_le (hlo b off h h0) hb.size

theorem IsRows.below {w w' : World} {a : Option Addr} {len : Nat} (hr : IsRows w a len) (hlo : LowRows w a len) (hb : Below w.heap.size w w') : IsRows w' a len := by
  rcases hr with h | ⟨z, rfl, hc⟩
  · exact .inl h
  · refine .inr ⟨z, rfl, fun i hi => ?_⟩
    obtain ⟨b, off, rfl, x, l, c, h⟩ := hc i hi
    exact ⟨b, off, rfl, x, l, c, (hb.cell (p := ⟨b, off + i, none⟩) (hlo b off rfl (by omega))).trans h⟩

set_option maxHeartbeats 1000000 in
theorem walk (s0 s1 s2 s3 : ByteArray) (r : Option Addr) (a : Option Addr) (len cap : Nat) (w : World) (hr : IsRows w a len) (hlo : LowRows w a len)
    (hq : r = none ∨ ∃ b off t, r = some ⟨b, off, none⟩ ∧ b < w.heap.size ∧ w.cell? ⟨b, off, none⟩ = some (.bool t)) :
    Calls Try.prog 3 #[.string s0, .string s1, .string s2, .string s3, .pointer r, .slice a len cap] w fun e w' => e = .returned (.bool true) ∧ Below w.heap.size w w' := by
  have HR : Hid (IsRows w a len) := hr
  have HL : Hid (LowRows w a len) := hlo
  have HQ : Hid (r = none ∨ ∃ b off t, r = some ⟨b, off, none⟩ ∧ b < w.heap.size ∧ w.cell? ⟨b, off, none⟩ = some (.bool t)) := hq
  clear hr hlo hq
  go_enter Try.func3, Try.ntmps3
  go_wp2_with fail
  refine (bytes_any s0 s1 s2 s3 r a len cap w HR.out).mono ?_
  rintro e w' ⟨t, rfl, hlen0, rfl⟩
  cases t
  · go_wp2_with fail
    go_ret
    exact ⟨rfl, Below.refl _ _⟩
  have hlen : len ≤ 1048576 := hlen0 rfl
  clear hlen0
  go_wp2_with fail
  refine (serverSize_any s0 s1 s2 s3 a len cap hlen w' HR.out).mono ?_
  rintro e w1 ⟨m, rfl, hm, hm2, rfl⟩
  by_cases hgt : 1048576 < m
  · go_wp2_with fail
    go_ret
    exact ⟨rfl, Below.refl _ _⟩
  go_wp2_with fail
  have b1 : Below w1.heap.size w1 (w1.alloc (.cells #[.bool true] 4)) := (Below.refl _ _).alloc (Nat.le_refl _) _
  rcases HQ.out with rfl | ⟨b, off, t, rfl, hbl, hcell⟩
  · refine (server_any s0 s1 s2 s3 none a len cap hlen _ (IsRows.below HR.out HL.out b1) (LowRows.below HL.out b1)).mono ?_
    rintro e w2 ⟨B2, rfl, hB2, hB2', hc2, b2⟩
    go_wp2_with fail
    refine (required_nil B2 _ hc2).mono ?_
    rintro e w2' ⟨rfl, rfl⟩
    go_wp2_with fail
    refine (server_any _ _ _ _ none none 0 0 (by omega) _ (.inl ⟨rfl, rfl⟩) (by intro b off h; cases h)).mono ?_
    rintro e w3 ⟨B3, rfl, hB3, hB3', hc3, b3⟩
    go_wp2_with fail
    refine (required_nil B3 _ hc3).mono ?_
    rintro e w3' ⟨rfl, rfl⟩
    have c2 : Below w1.heap.size w1 w2' := b1.trans (b2.mono (by simp))
    have c3 : Below w1.heap.size w1 w3' := c2.trans (b3.mono c2.size)
    go_wp2_with fail
    refine (server_any s0 s1 s2 s3 none a len cap hlen _ (IsRows.below HR.out HL.out c3) (LowRows.below HL.out c3)).mono ?_
    rintro e w4 ⟨B4, rfl, hB4, hB4', hc4, b4⟩
    go_wp2_with fail
    refine (required_nil B4 _ hc4).mono ?_
    rintro e w4' ⟨rfl, rfl⟩
    have c4 : Below w1.heap.size w1 w4' := c3.trans (b4.mono c3.size)
    go_wp2_with fail
    refine (server_any s0 s1 s2 s3 (some ⟨w1.heap.size, 0, none⟩) a len cap hlen _ (IsRows.below HR.out HL.out c4) (LowRows.below HL.out c4)).mono ?_
    rintro e w5 ⟨B5, rfl, hB5, hB5', hc5, b5⟩
    have z2 : w1.heap.size < w2'.heap.size := by have := b2.size; simp at this; omega
    have d1 : (w1.alloc (.cells #[.bool true] 4)).cell? ⟨w1.heap.size, 0, none⟩ = some (.bool true) := by simp [go_sem]
    have d2 : w2'.cell? ⟨w1.heap.size, 0, none⟩ = some (.bool true) := (b2.cell (p := ⟨w1.heap.size, 0, none⟩) (by simp)).trans d1
    have d3 : w3'.cell? ⟨w1.heap.size, 0, none⟩ = some (.bool true) := (b3.cell (p := ⟨w1.heap.size, 0, none⟩) (by simp; omega)).trans d2
    have d4 : w4'.cell? ⟨w1.heap.size, 0, none⟩ = some (.bool true) := (b4.cell (p := ⟨w1.heap.size, 0, none⟩) (by have := b3.size; simp; omega)).trans d3
    have d5 : w5.cell? ⟨w1.heap.size, 0, none⟩ = some (.bool true) := (b5.cell (p := ⟨w1.heap.size, 0, none⟩) (by have := b3.size; have := b4.size; simp; omega)).trans d4
    go_wp2_with fail
    refine (required_set B5 _ _ true hc5 d5).mono ?_
    rintro e w5' ⟨rfl, rfl⟩
    have c5 : Below w1.heap.size w1 w5' := c4.trans (b5.mono c4.size)
    go_wp2_with fail
    go_ret
    exact ⟨rfl, c5⟩
  · refine (server_any s0 s1 s2 s3 (some ⟨b, off, none⟩) a len cap hlen _ (IsRows.below HR.out HL.out b1) (LowRows.below HL.out b1)).mono ?_
    rintro e w2 ⟨B2, rfl, hB2, hB2', hc2, b2⟩
    have c2 : Below w1.heap.size w1 w2 := b1.trans (b2.mono (by simp))
    have e2 : w2.cell? ⟨b, off, none⟩ = some (.bool t) := (c2.cell (p := ⟨b, off, none⟩) hbl).trans hcell
    go_wp2_with fail
    refine (required_set B2 _ _ t hc2 e2).mono ?_
    rintro e w2' ⟨rfl, rfl⟩
    go_wp2_with fail
    refine (server_any _ _ _ _ (some ⟨b, off, none⟩) none 0 0 (by omega) _ (.inl ⟨rfl, rfl⟩) (by intro b off h; cases h)).mono ?_
    rintro e w3 ⟨B3, rfl, hB3, hB3', hc3, b3⟩
    have c3 : Below w1.heap.size w1 w3 := c2.trans (b3.mono c2.size)
    have e3 : w3.cell? ⟨b, off, none⟩ = some (.bool t) := (c3.cell (p := ⟨b, off, none⟩) hbl).trans hcell
    go_wp2_with fail
    refine (required_set B3 _ _ t hc3 e3).mono ?_
    rintro e w3' ⟨rfl, rfl⟩
    go_wp2_with fail
    refine (server_any s0 s1 s2 s3 none a len cap hlen _ (IsRows.below HR.out HL.out c3) (LowRows.below HL.out c3)).mono ?_
    rintro e w4 ⟨B4, rfl, hB4, hB4', hc4, b4⟩
    go_wp2_with fail
    refine (required_nil B4 _ hc4).mono ?_
    rintro e w4' ⟨rfl, rfl⟩
    have c4 : Below w1.heap.size w1 w4' := c3.trans (b4.mono c3.size)
    go_wp2_with fail
    refine (server_any s0 s1 s2 s3 (some ⟨w1.heap.size, 0, none⟩) a len cap hlen _ (IsRows.below HR.out HL.out c4) (LowRows.below HL.out c4)).mono ?_
    rintro e w5 ⟨B5, rfl, hB5, hB5', hc5, b5⟩
    have z2 : w1.heap.size < w2'.heap.size := by have := b2.size; simp at this; omega
    have d1 : (w1.alloc (.cells #[.bool true] 4)).cell? ⟨w1.heap.size, 0, none⟩ = some (.bool true) := by simp [go_sem]
    have d2 : w2'.cell? ⟨w1.heap.size, 0, none⟩ = some (.bool true) := (b2.cell (p := ⟨w1.heap.size, 0, none⟩) (by simp)).trans d1
    have d3 : w3'.cell? ⟨w1.heap.size, 0, none⟩ = some (.bool true) := (b3.cell (p := ⟨w1.heap.size, 0, none⟩) (by simp; omega)).trans d2
    have d4 : w4'.cell? ⟨w1.heap.size, 0, none⟩ = some (.bool true) := (b4.cell (p := ⟨w1.heap.size, 0, none⟩) (by have := b3.size; simp; omega)).trans d3
    have d5 : w5.cell? ⟨w1.heap.size, 0, none⟩ = some (.bool true) := (b5.cell (p := ⟨w1.heap.size, 0, none⟩) (by have := b3.size; have := b4.size; simp; omega)).trans d4
    go_wp2_with fail
    refine (required_set B5 _ _ true hc5 d5).mono ?_
    rintro e w5' ⟨rfl, rfl⟩
    have c5 : Below w1.heap.size w1 w5' := c4.trans (b5.mono c4.size)
    have e5 : w5'.cell? ⟨b, off, none⟩ = some (.bool t) := (c5.cell (p := ⟨b, off, none⟩) hbl).trans hcell
    clear d1 d2 d3 d4 d5 e2 e3
    cases t
    · go_wp2_with fail
      go_ret
      exact ⟨rfl, c5⟩
    · go_wp2_with fail
      go_ret
      exact ⟨rfl, c5⟩
end Go.Proofs.Qxb6612550a
