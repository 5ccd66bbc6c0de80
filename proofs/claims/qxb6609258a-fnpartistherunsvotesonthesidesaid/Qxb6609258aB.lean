import Derived.Test.Qxb6609258aA
namespace Go.Proofs.Qxb6609258a
open Go.ChangeShapes Go.WideShapes Go.ChangeAt Go.RowKit
set_option linter.unusedVariables false

/-- A row of places. -/
def PRow (w : World) (g n : Nat) (ps : Nat → Nat) : Prop := KRow .i64 w g n (fun i => (ps i : Int))
def updN (f : Nat → Nat) (i z : Nat) : Nat → Nat := fun j => if j = i then z else f j
theorem PRow.set {w : World} {g n : Nat} {ps : Nat → Nat} (h : PRow w g n ps) (i z : Nat) (hi : i < n) : PRow (w.setCell ⟨g, i, none⟩ (.int .i64 (z : Int))) g n (updN ps i z) := by
  have := KRow.set h i (z : Int) hi
  have e : upd (fun i => (ps i : Int)) i (z : Int) = fun j => ((updN ps i z j : Nat) : Int) := by
    funext j
    simp only [upd, updN]
    split <;> rfl
  rw [e] at this
  exact this

/-- The first i places hold the numbers 0 .. i-1, in whatever order. -/
def Perm (ps : Nat → Nat) (i : Nat) : Prop := (∀ m, m < i → ps m < i) ∧ ∀ t, t < i → ∃ m, m < i ∧ ps m = t

theorem Perm.push {ps : Nat → Nat} {i : Nat} (h : Perm ps i) : Perm (updN ps i i) (i + 1) := by
  refine ⟨fun m hm => ?_, fun t ht => ?_⟩
  · by_cases e : m = i
    · subst e; simp [updN]
    · simp only [updN, if_neg e]; have := h.1 m (by omega); omega
  · by_cases e : t = i
    · subst e; exact ⟨t, by omega, by simp [updN]⟩
    · obtain ⟨m, hm, rfl⟩ := h.2 t (by omega)
      exact ⟨m, by omega, by simp only [updN, if_neg (show m ≠ i by omega)]⟩

theorem Perm.swap {ps : Nat → Nat} {i k : Nat} (h : Perm ps i) (hk : k < i) (h0 : 0 < k) : Perm (updN (updN ps k (ps (k - 1))) (k - 1) (ps k)) i := by
  refine ⟨fun m hm => ?_, fun t ht => ?_⟩
  · simp only [updN]
    split
    · exact h.1 k hk
    · split
      · exact h.1 (k - 1) (by omega)
      · exact h.1 m hm
  · obtain ⟨m, hm, rfl⟩ := h.2 t ht
    by_cases e : m = k
    · subst e; exact ⟨m - 1, by omega, by simp [updN]⟩
    · by_cases e2 : m = k - 1
      · subst e2; exact ⟨k, hk, by simp only [updN, if_neg (show k ≠ k - 1 by omega), if_true]⟩
      · exact ⟨m, hm, by simp only [updN, if_neg e2, if_neg e]⟩

theorem less_lit {g n i j : Nat} {h : Nat → Int} (hn : n ≤ 4096) (hi : i < n) (hj : j < n) {w : World} (hr : KRow .u64 w g n h) {t : Bool} (ht : lt h i j = t) :
    Calls Try.prog 13 #[.slice (some ⟨g, 0, none⟩) n n, .int .i64 i, .int .i64 j] w fun e w' => e = .returned (.bool t) ∧ ∃ q, w' = w.drewN q := by
  subst ht; exact less_any g n i j h hn hi hj w hr

theorem wrap_sub (k : Nat) (h2 : k ≤ 1048576) : IntKind.i64.wrap ((k : Int) - 1) = (k : Int) - 1 := IntWalk.i64_in _ ⟨by omega, by omega⟩

set_option maxHeartbeats 2000000 in
theorem order_any (g n : Nat) (h : Nat → Int) (hn : n ≤ 4096) (w : World) (hr : KRow .u64 w g n h) :
    Calls Try.prog 9 #[.slice (some ⟨g, 0, none⟩) n n] w fun e w' => ∃ (gP : Nat) (ps : Nat → Nat), e = .returned (.slice (some ⟨gP, 0, none⟩) n n) ∧ w.heap.size ≤ gP ∧ PRow w' gP n ps ∧ Perm ps n ∧ Below w.heap.size w w' := by
  have HR := hid hr
  clear hr
  obtain ⟨i0, hi, hz0, hz1, hz2⟩ := info_parts info3
  go_enter Try.func9, Try.ntmps9
  go_wp2_with (at_make; refine wpList_make_full _ rfl (.tmp 10) (.tmp 10) 28 rfl 0 3 i0 (.int .i64 0) 1 Try.underlying28 hi hz0 hz1 .i64 .i64 _ _ n rfl rfl (by omega) (by omega) (by rw [hz2]; omega) (by unfold maxLen; omega) (Nat.zero_le _) ?_; intro w1 hown1 hgrow1)
  have hb1 : Below w.heap.size w w1 := (Below.refl _ w).grown hgrow1 (Nat.le_refl _) (by intro k h; cases h)
  have R1 : Hid (PRow w1 w.heap.size n (fun _ => 0)) := KRow.made hown1
  have HB := hid hb1
  clear hown1 hgrow1 hb1 hi hz0 hz1 hz2
  go_loopw [5, 6, 7] (fun i k t wr => ∃ (c : Nat) (ps : Nat → Nat), c ≤ n ∧ i = .int .i64 c ∧ Hid (PRow wr w.heap.size n ps) ∧ Hid (Perm ps c) ∧ Hid (Below w.heap.size w wr)) (fun i _ _ _ => n - (intOf i).toNat)
  case atStart => exact ⟨0, _, Nat.zero_le _, rfl, R1, ⟨fun m hm => absurd hm (by omega), fun t ht => absurd ht (by omega)⟩, HB⟩
  case round =>
    obtain ⟨c, ps, hc, rfl, HP, HM, HBr⟩ := hrel
    by_cases hlt : c < n
    · obtain ⟨d1, e1⟩ := HP.out.2 c hlt
      have RP : Hid (PRow (wr.setCell ⟨w.heap.size, c, none⟩ (.int .i64 (c : Int))) w.heap.size n (updN ps c c)) := HP.out.set c c hlt
      have RM := hid HM.out.push
      have RB : Hid (Below w.heap.size w (wr.setCell ⟨w.heap.size, c, none⟩ (.int .i64 (c : Int)))) := HBr.out.setCell (p := ⟨w.heap.size, c, none⟩) (Nat.le_refl _) _
      clear HP HM HBr
      go_wp2_with fail
      go_loopw [6, 7] (fun k t wx => ∃ (kN : Nat) (ps' : Nat → Nat), kN ≤ c ∧ k = .int .i64 kN ∧ Hid (PRow wx w.heap.size n ps') ∧ Hid (Perm ps' (c + 1)) ∧ Hid (Below w.heap.size w wx)) (fun k _ _ => (intOf k).toNat)
      case atStart => exact ⟨c, _, Nat.le_refl _, rfl, RP, RM, RB⟩
      case round =>
        obtain ⟨kN, qs, hk, rfl, HP, HM, HBr⟩ := hrel
        clear d1 e1 RP RM RB
        by_cases hk0 : kN = 0
        · have hd : decide (0 < kN) = false := by simp; omega
          have HK0 := hid hk0
          clear hk0
          have HP2 : ∀ q, Hid (PRow (wr.drewN q) w.heap.size n qs) := fun q => HP.out
          have HB2 : ∀ q, Hid (Below w.heap.size w (wr.drewN q)) := fun q => below_drewN HBr.out q
          have HP3 := hid HP2
          have HB3 := hid HB2
          clear HP2 HB2
          go_wp2
          go_quiet (fail)
          go_wp2
          go_roundw
          case rel => exact ⟨c + 1, qs, by omega, by go_num, HP3.out _, HM, HB3.out _⟩
          case measure => simp [intOf]; omega
        · have hd : decide (0 < kN) = true := by simp; omega
          have hkp : 0 < kN := by omega
          obtain ⟨d1', e1⟩ := HP.out.2 kN (by omega)
          obtain ⟨d2', e2⟩ := HP.out.2 (kN - 1) (by omega)
          have d1 : wr.cell? ⟨w.heap.size, kN, none⟩ = some (.int .i64 (qs kN : Int)) := d1'
          have d2 : wr.cell? ⟨w.heap.size, kN - 1, none⟩ = some (.int .i64 (qs (kN - 1) : Int)) := d2'
          clear d1' d2'
          have hj0 : (0 : Int) ≤ (kN : Int) - 1 := by omega
          have hj1 : (kN : Int) - 1 < (n : Int) := by omega
          have hj2 : ((kN : Int) - 1).toNat = kN - 1 := by omega
          have hj3 : IntKind.i64.wrap ((kN : Int) - 1) = (kN : Int) - 1 := wrap_sub kN (by omega)
          have hk1 : (kN : Int) < (n : Int) := by omega
          have hk2 : (0 : Int) ≤ (kN : Int) := by omega
          have v1 : qs kN < n := by have := HM.out.1 kN (by omega); omega
          have v2 : qs (kN - 1) < n := by have := HM.out.1 (kN - 1) (by omega); omega
          have HH : Hid (∀ q, KRow .u64 (wr.drewN q) g n h) := fun q => HR.out.below (below_drewN HBr.out q)
          have NP := hid ((HP.out.set kN (qs (kN - 1)) (by omega)).set (kN - 1) (qs kN) (by omega))
          have NM := hid (HM.out.swap (k := kN) (by omega) hkp)
          have HP3 : Hid (∀ q, Hid (PRow (wr.drewN q) w.heap.size n qs)) := fun q => HP.out
          have HB3 : Hid (∀ q, Hid (Below w.heap.size w (wr.drewN q))) := fun q => below_drewN HBr.out q
          have NP3 : Hid (∀ q, Hid (PRow (((wr.drewN q).setCell ⟨w.heap.size, kN, none⟩ (.int .i64 (qs (kN - 1) : Int))).setCell ⟨w.heap.size, kN - 1, none⟩ (.int .i64 (qs kN : Int))) w.heap.size n (updN (updN qs kN (qs (kN - 1))) (kN - 1) (qs kN)))) := fun q => NP.out
          have NB3 : Hid (∀ q, Hid (Below w.heap.size w (((wr.drewN q).setCell ⟨w.heap.size, kN, none⟩ (.int .i64 (qs (kN - 1) : Int))).setCell ⟨w.heap.size, kN - 1, none⟩ (.int .i64 (qs kN : Int))))) := fun q => ((HB3.out q).out.setCell (p := ⟨w.heap.size, kN, none⟩) (Nat.le_refl _) _).setCell (p := ⟨w.heap.size, kN - 1, none⟩) (Nat.le_refl _) _
          clear HP NP HBr hk0
          cases hltb : lt h (qs kN) (qs (kN - 1))
          · have HT := hid hltb
            clear hltb NP3 NB3 NM
            go_wp2
            go_quiet ((go_at_call 13; refine Calls.quiet_of (less_lit hn v1 v2 (HH.out _) HT.out)))
            go_wp2
            go_roundw
            case rel => exact ⟨c + 1, qs, by omega, by go_num, HP3.out _, HM, HB3.out _⟩
            case measure => simp [intOf]; omega
          · have HT := hid hltb
            clear hltb HP3 HB3
            generalize updN (updN qs kN (qs (kN - 1))) (kN - 1) (qs kN) = qs' at *
            clear HM
            go_wp2
            go_quiet ((go_at_call 13; refine Calls.quiet_of (less_lit hn v1 v2 (HH.out _) HT.out)))
            go_wp2
            go_roundw
            case rel => exact ⟨kN - 1, qs', by omega, by go_num, NP3.out _, NM, NB3.out _⟩
            case measure => simp [intOf]; omega
    · have : c = n := by omega
      subst this
      go_wp2
      go_ret
      exact ⟨_, _, rfl, Nat.le_refl _, HP.out, HM.out, HBr.out⟩
end Go.Proofs.Qxb6609258a
