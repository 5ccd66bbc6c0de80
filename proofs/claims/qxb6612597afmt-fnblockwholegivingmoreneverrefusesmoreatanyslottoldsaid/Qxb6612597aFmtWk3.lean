import Derived.Test.Qxb6612597aFmtWk2
namespace Go.Proofs.Qxb6612597aFmt
open Go.RowKit Go.Extern.Stop Go.Stop Go.Extern
set_option linter.unusedVariables false

/-- Is a block that gives p, q, r refused at the requirement p', q', r'? -/
def refused (p q r p' q' r' : Bool) : Bool := (p' && !p) || (q' && !q) || (r' && !r)

theorem c38 (s : Int) (p q r : Bool) : (blkL s p q r)[38]? = some (.bool p) := rfl
theorem c39 (s : Int) (p q r : Bool) : (blkL s p q r)[39]? = some (.bool q) := rfl
theorem c40 (s : Int) (p q r : Bool) : (blkL s p q r)[40]? = some (.bool r) := rfl
theorem c0 (s : Int) (p q r : Bool) : (blkL s p q r)[0]? = some (.int .u64 s) := rfl
attribute [local go_sem] c38 c39 c40 c0

set_option maxHeartbeats 4000000 in
theorem whole_ok (s : Int) (p q r p' q' r' : Bool) (w : World) (h : refused p q r p' q' r' = false) :
    Calls Tryf.prog 8 #[.agg (blkL s p q r).toArray, .agg #[.bool p', .bool q', .bool r']] w fun e w' => e = .returned .nilIface ∧ Below w.heap.size w w' := by
  obtain ⟨h1, h2, h3⟩ : (p' = false ∨ (p' = true ∧ p = true)) ∧ (q' = false ∨ (q' = true ∧ q = true)) ∧ (r' = false ∨ (r' = true ∧ r = true)) := by
    revert h; cases p <;> cases q <;> cases r <;> cases p' <;> cases q' <;> cases r' <;> simp [refused]
  clear h
  rcases h1 with rfl | ⟨rfl, rfl⟩ <;> rcases h2 with rfl | ⟨rfl, rfl⟩ <;> rcases h3 with rfl | ⟨rfl, rfl⟩
  all_goals
    go_enter Tryf.func8, Tryf.ntmps8
    go_wp2_with fail
    go_ret
    exact ⟨rfl, ((Below.refl _ _).alloc (Nat.le_refl _) _).alloc (by simp) _⟩

set_option maxHeartbeats 4000000 in
theorem whole_no (F : Interp) (s : Int) (p q r p' q' r' : Bool) (w : World) (hF : F.answers w.tape) (h : refused p q r p' q' r' = true) :
    Calls Tryf.prog 8 #[.agg (blkL s p q r).toArray, .agg #[.bool p', .bool q', .bool r']] w fun e w' => ∃ x, e = .returned (.iface 45 (.pointer (some x))) ∧ Below w.heap.size w w' := by
  have hc : (p' = true ∧ p = false) ∨ ((p' = false ∨ (p' = true ∧ p = true)) ∧ q' = true ∧ q = false) ∨ ((p' = false ∨ (p' = true ∧ p = true)) ∧ (q' = false ∨ (q' = true ∧ q = true)) ∧ r' = true ∧ r = false) := by
    revert h; cases p <;> cases q <;> cases r <;> cases p' <;> cases q' <;> cases r' <;> simp [refused]
  clear h
  have HF : Hid (F.answers w.tape) := hF
  clear hF
  rcases hc with ⟨rfl, rfl⟩ | ⟨rfl | ⟨rfl, rfl⟩, rfl, rfl⟩ | ⟨rfl | ⟨rfl, rfl⟩, rfl | ⟨rfl, rfl⟩, rfl, rfl⟩
  all_goals
    go_enter Tryf.func8, Tryf.ntmps8
    go_wp2_with fail
    refine (errorf_any F _ _ _ _ ((w.alloc _).alloc _) (w.heap.size + 1 + 1) (by simp) HF.out).mono ?_
    rintro e w' ⟨x, rfl, hb⟩
    go_wp2_with fail
    go_ret
    exact ⟨_, rfl, (((Below.refl _ _).alloc (Nat.le_refl _) _).alloc (by simp) _).trans (hb.mono (by simp; omega))⟩
end Go.Proofs.Qxb6612597aFmt
