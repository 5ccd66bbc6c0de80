import Derived.Test.Qxb6609258aG
namespace Go.Proofs.Qxb6609258a
open Go.ChangeShapes Go.WideShapes Go.ChangeAt Go.RowKit
set_option linter.unusedVariables false

/-- Span j is a vote of the run x .. y on the bound's side. -/
def inB (h : Nat → Int) (x y z : Nat) (older : Bool) (j : Nat) : Bool := !(lt h j x) && !(lt h y j) && !(older && lt h z j) && !(!older && lt h j z)

def FInv (h : Nat → Int) (x y z : Nat) (older : Bool) (j : Nat) (f : Bool) (lo hi : Nat) : Prop :=
  (f = false ∧ ∀ i, i < j → inB h x y z older i = false) ∨
  (f = true ∧ lo < j ∧ hi < j ∧ inB h x y z older lo = true ∧ inB h x y z older hi = true ∧ ∀ i, i < j → inB h x y z older i = true → lt h i lo = false ∧ lt h hi i = false)

theorem FInv.skip {h : Nat → Int} {x y z : Nat} {older : Bool} {j : Nat} {f : Bool} {lo hi : Nat} (I : FInv h x y z older j f lo hi) (hj : inB h x y z older j = false) : FInv h x y z older (j + 1) f lo hi := by
  rcases I with ⟨hf, ha⟩ | ⟨hf, h1, h2, h3, h4, ha⟩
  · refine .inl ⟨hf, fun i hi => ?_⟩
    by_cases e : i = j
    · subst e; exact hj
    · exact ha i (by omega)
  · refine .inr ⟨hf, by omega, by omega, h3, h4, fun i hi hin => ?_⟩
    by_cases e : i = j
    · subst e; rw [hj] at hin; cases hin
    · exact ha i (by omega) hin

theorem lt_self (h : Nat → Int) (j : Nat) : lt h j j = false := by rw [lt_false]; omega

theorem FInv.first {h : Nat → Int} {x y z : Nat} {older : Bool} {j : Nat} {lo hi : Nat} (I : FInv h x y z older j false lo hi) (hj : inB h x y z older j = true) : FInv h x y z older (j + 1) true j j := by
  rcases I with ⟨_, ha⟩ | ⟨hf, _⟩
  · refine .inr ⟨rfl, by omega, by omega, hj, hj, fun i hi hin => ?_⟩
    by_cases e : i = j
    · subst e; exact ⟨lt_self h i, lt_self h i⟩
    · rw [ha i (by omega)] at hin; cases hin
  · cases hf

theorem FInv.upd {h : Nat → Int} {x y z : Nat} {older : Bool} {j : Nat} {lo hi : Nat} (I : FInv h x y z older j true lo hi) (hj : inB h x y z older j = true) (lo' hi' : Nat) (hlo : lo' = if lt h j lo then j else lo) (hhi : hi' = if lt h hi j then j else hi) :
    FInv h x y z older (j + 1) true lo' hi' := by
  rcases I with ⟨hf, _⟩ | ⟨_, h1, h2, h3, h4, ha⟩
  · cases hf
  refine .inr ⟨rfl, ?_, ?_, ?_, ?_, fun i hi2 hin => ?_⟩
  · rw [hlo]; split <;> omega
  · rw [hhi]; split <;> omega
  · rw [hlo]; split <;> assumption
  · rw [hhi]; split <;> assumption
  · have hi3 : i = j ∨ (lt h i lo = false ∧ lt h hi i = false) := by
      by_cases e : i = j
      · exact .inl e
      · exact .inr (ha i (by omega) hin)
    refine ⟨?_, ?_⟩
    · rw [hlo]
      cases e1 : lt h j lo
      · simp only [Bool.false_eq_true, if_false]
        rcases hi3 with rfl | q
        · exact e1
        · exact q.1
      · simp only [if_true]
        rw [lt_iff] at e1
        rcases hi3 with rfl | q
        · exact lt_self h i
        · have := q.1
          rw [lt_false] at this ⊢
          omega
    · rw [hhi]
      cases e1 : lt h hi j
      · simp only [Bool.false_eq_true, if_false]
        rcases hi3 with rfl | q
        · exact e1
        · exact q.2
      · simp only [if_true]
        rw [lt_iff] at e1
        rcases hi3 with rfl | q
        · exact lt_self h i
        · have := q.2
          rw [lt_false] at this ⊢
          omega

theorem inB_iff {h : Nat → Int} {x y z : Nat} {older : Bool} {j : Nat} : inB h x y z older j = true ↔ (lt h j x = false ∧ lt h y j = false ∧ (older = true → lt h z j = false) ∧ (older = false → lt h j z = false)) := by
  unfold inB
  cases older <;> cases lt h j x <;> cases lt h y j <;> cases lt h z j <;> cases lt h j z <;> simp

theorem eq_of_not_lt {h : Nat → Int} {i j : Nat} (h1 : lt h i j = false) (h2 : lt h j i = false) : i = j := by
  rw [lt_false] at h1 h2
  omega

theorem FInv.last {h : Nat → Int} {x y z n : Nat} {older : Bool} {f : Bool} {lo hi : Nat} (I : FInv h x y z older n f lo hi) (hx : x < n) (hy : y < n) (hz : z < n) (hyx : lt h y x = false) :
    partOf h x y z older = if f then (lo, hi, true) else (x, y, false) := by
  have use : ∀ m k : Nat, m < n → k < n → inB h x y z older m = true → inB h x y z older k = true → (∀ i, i < n → inB h x y z older i = true → lt h i m = false ∧ lt h k i = false) → f = true ∧ m = lo ∧ k = hi := by
    intro m k hm hk im ik hmk
    rcases I with ⟨_, ha⟩ | ⟨hf, h1, h2, h3, h4, ha⟩
    · rw [ha m hm] at im; cases im
    · exact ⟨hf, eq_of_not_lt (ha m hm im).1 (hmk lo h1 h3).1, (eq_of_not_lt (hmk hi h2 h4).2 (ha k hk ik).2)⟩
  have none : (∀ i, i < n → inB h x y z older i = false) → f = false := by
    intro hno
    rcases I with ⟨hf, _⟩ | ⟨_, h1, _, h3, _, _⟩
    · exact hf
    · rw [hno lo h1] at h3; cases h3
  cases older
  · cases e1 : lt h y z
    · have key : ∀ m, m = (if lt h x z then z else x) → partOf h x y z false = if f then (lo, hi, true) else (x, y, false) := by
        intro m hm
        have hm1 : lt h m x = false ∧ lt h y m = false ∧ lt h m z = false ∧ m < n ∧ ∀ i, lt h i x = false → lt h i z = false → lt h i m = false := by
          rw [hm]
          cases e2 : lt h x z
          · exact ⟨lt_self h x, hyx, e2, hx, fun i a b => a⟩
          · refine ⟨?_, e1, lt_self h z, hz, fun i a b => b⟩
            simp only [if_true]
            rw [lt_iff] at e2; rw [lt_false]; omega
        obtain ⟨a1, a2, a3, a4, a5⟩ := hm1
        obtain ⟨rfl, rfl, rfl⟩ := use m y a4 hy (inB_iff.2 ⟨a1, a2, by simp, fun _ => a3⟩) (inB_iff.2 ⟨hyx, lt_self h y, by simp, fun _ => e1⟩) (fun i hi' hin => by
          obtain ⟨b1, b2, _, b4⟩ := inB_iff.1 hin
          exact ⟨a5 i b1 (b4 rfl), b2⟩)
        simp [partOf, e1, hm]
      exact key _ rfl
    · have : f = false := none fun i hi' => by
        cases e : inB h x y z false i
        · rfl
        · obtain ⟨b1, b2, _, b4⟩ := inB_iff.1 e
          have b4 := b4 rfl
          rw [lt_iff] at e1; rw [lt_false] at b2 b4; omega
      subst this
      simp [partOf, e1]
  · cases e1 : lt h z x
    · have key : ∀ m, m = (if lt h z y then z else y) → partOf h x y z true = if f then (lo, hi, true) else (x, y, false) := by
        intro m hm
        have hm1 : lt h m x = false ∧ lt h y m = false ∧ lt h z m = false ∧ m < n ∧ ∀ i, lt h y i = false → lt h z i = false → lt h m i = false := by
          rw [hm]
          cases e2 : lt h z y
          · exact ⟨hyx, lt_self h y, e2, hy, fun i a b => a⟩
          · refine ⟨e1, ?_, lt_self h z, hz, fun i a b => b⟩
            simp only [if_true]
            rw [lt_iff] at e2; rw [lt_false]; omega
        obtain ⟨a1, a2, a3, a4, a5⟩ := hm1
        obtain ⟨rfl, rfl, rfl⟩ := use x m hx a4 (inB_iff.2 ⟨lt_self h x, hyx, fun _ => e1, by simp⟩) (inB_iff.2 ⟨a1, a2, fun _ => a3, by simp⟩) (fun i hi' hin => by
          obtain ⟨b1, b2, b3, _⟩ := inB_iff.1 hin
          exact ⟨b1, a5 i b2 (b3 rfl)⟩)
        simp [partOf, e1, hm]
      exact key _ rfl
    · have : f = false := none fun i hi' => by
        cases e : inB h x y z true i
        · rfl
        · obtain ⟨b1, b2, b3, _⟩ := inB_iff.1 e
          have b3 := b3 rfl
          rw [lt_iff] at e1; rw [lt_false] at b1 b3; omega
      subst this
      simp [partOf, e1]

theorem partOf_lt (h : Nat → Int) (x y z n : Nat) (older : Bool) (hx : x < n) (hy : y < n) (hz : z < n) : (partOf h x y z older).1 < n ∧ (partOf h x y z older).2.1 < n := by
  unfold partOf
  cases older
  · cases lt h y z <;> cases lt h x z <;> simp [hx, hy, hz]
  · cases lt h z x <;> cases lt h z y <;> simp [hx, hy, hz]
end Go.Proofs.Qxb6609258a
