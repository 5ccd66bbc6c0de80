import Derived.Test.Qxb6612597aFmtWk4
import Derived.Deep.RegionHeld3
import Derived.Deep.DrawnRows
namespace Go.Proofs.Qxb6612597aFmt
open Go.RowKit Go.Extern.Stop Go.Stop Go.Extern
set_option linter.unusedVariables false

/-- The cells of the Block that a pointer value leads to. -/
def rowOf (w : World) : Value → Array Value
  | .pointer (some a) => ((List.range 41).map fun j => (w.cell? ⟨a.block, j, none⟩).getD undef).toArray
  | _ => #[]
/-- It leads to a whole Block at the head of its block. -/
def okRow (w : World) : Value → Bool
  | .pointer (some a) => (a.off == 0 && a.spot == none) && (List.range 41).all fun j => (w.cell? ⟨a.block, j, none⟩).isSome
  | _ => false

/-- A load of a whole Block, as an operation: not cell by cell. -/
theorem exec_load32 (ρ : Operand → Value) (dst : Option Tmp) (n : Nat) (ty : TypeId) (pos : String) (after : Array Edge) (guard : Option (Nat × Bool)) (w : World) (h : okRow w (ρ (.tmp n)) = true) :
    (execOp ρ ⟨dst, .load 32 (.tmp n), ty, pos, after, guard⟩).run Tryf.prog w = .ok (.value (.agg (rowOf w (ρ (.tmp n))))) w := by
  generalize hv : ρ (.tmp n) = v at h ⊢
  match v, h with
  | .pointer (some ⟨b, o, sp⟩), h =>
    simp [okRow] at h
    obtain ⟨⟨rfl, rfl⟩, h⟩ := h
    have hr : w.rangeAt b 0 ((List.range 41).map fun j => (w.cell? ⟨b, j, none⟩).getD undef) := by
      intro j u hu
      simp only [List.getElem?_map, Option.map_eq_some_iff] at hu
      obtain ⟨k, hk, rfl⟩ := hu
      have hk' := List.getElem?_eq_some_iff.1 hk
      obtain ⟨hlt, rfl⟩ := hk'
      simp at hlt ⊢
      have := h j hlt
      obtain ⟨z, hz⟩ := Option.isSome_iff_exists.1 this
      simp [hz]
    have hl := run_loadVar_mid (P := Tryf.prog) w b 0 32 _ _ hr Tryf.underlying32 rfl (by simpa using size32)
    unfold execOp
    simp only [hv, Instr.loadAt, Instr.sureAddr, Sem.run_bind, Sem.run_pure, Result.andThen_ok, hl, rowOf]

theorem row_of_range {W : World} {B : Nat} {L : List Value} (h : W.rangeAt B 0 L) (hL : L.length = 41) : okRow W (.pointer (some ⟨B, 0, none⟩)) = true ∧ rowOf W (.pointer (some ⟨B, 0, none⟩)) = L.toArray := by
  have hc : ∀ j, j < 41 → W.cell? ⟨B, j, none⟩ = L[j]? := fun j hj => by
    have h1 : L[j]? = some (L[j]'(by omega)) := List.getElem?_eq_getElem (by omega)
    rw [h1, ← h j _ h1, Nat.zero_add]
  constructor
  · simp [okRow]
    intro j hj
    rw [hc j hj]
    simp; omega
  · simp only [rowOf]
    congr 1
    refine List.ext_getElem? fun j => ?_
    simp only [List.getElem?_map]
    by_cases hj : j < 41
    · rw [List.getElem?_range hj]
      simp only [Option.map_some, hc j hj]
      rw [List.getElem?_eq_getElem (by omega)]
      rfl
    · rw [List.getElem?_eq_none (by simp; omega), List.getElem?_eq_none (by omega)]
      rfl

/-- What stands while a law runs: the tape answers as F does, nothing old has turned, block B holds the Block. -/
def Rest (F : Interp) (w : World) (B : Nat) (L : List Value) (W : World) : Prop := F.answers W.tape ∧ Below w.heap.size w W ∧ w.heap.size ≤ B ∧ B < W.heap.size ∧ W.rangeAt B 0 L

theorem Rest.below {F : Interp} {w : World} {B : Nat} {L : List Value} {W W' : World} (hR : Rest F w B L W) (hb : Below W.heap.size W W') : Rest F w B L W' := by
  obtain ⟨h1, h2, h3, h4, hr⟩ := hR
  refine ⟨by rw [hb.tape]; exact h1, h2.trans (hb.mono h2.size), h3, Nat.lt_of_lt_of_le h4 hb.size, fun j v hv => ?_⟩
  rw [hb.cell (p := ⟨B, 0 + j, none⟩) h4]
  exact hr j v hv

theorem Rest.keep {F : Interp} {w : World} {B : Nat} {s : Int} {p q r : Bool} {W W' : World} (hb : Below W.heap.size W W') (hR : Hid (Rest F w B (blkL s p q r) W)) :
    okRow W' (.pointer (some ⟨B, 0, none⟩)) = true ∧ rowOf W' (.pointer (some ⟨B, 0, none⟩)) = (blkL s p q r).toArray ∧ Hid (Rest F w B (blkL s p q r) W') :=
  have h := Rest.below hR.out hb
  ⟨(row_of_range h.2.2.2.2 rfl).1, (row_of_range h.2.2.2.2 rfl).2, h⟩

theorem Rest.ans {F : Interp} {w : World} {B : Nat} {L : List Value} {W : World} (h : Hid (Rest F w B L W)) : F.answers W.tape := h.out.1
theorem Rest.bel {F : Interp} {w : World} {B : Nat} {L : List Value} {W : World} (h : Hid (Rest F w B L W)) : Below w.heap.size w W := h.out.2.1

theorem refused_union (p q r a b c x y z : Bool) : refused p q r (a || x) (b || y) (c || z) = (refused p q r a b c || refused p q r x y z) := by
  cases p <;> cases q <;> cases r <;> cases a <;> cases b <;> cases c <;> cases x <;> cases y <;> cases z <;> rfl
end Go.Proofs.Qxb6612597aFmt
