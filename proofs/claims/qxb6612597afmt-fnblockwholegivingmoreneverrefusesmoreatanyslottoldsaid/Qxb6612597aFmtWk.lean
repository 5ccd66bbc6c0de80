import Derived.Test.Qxb6612597aFmtRows
import Derived.WalkKit
import Derived.ProofKit
import Derived.WalkSpells
import Derived.WalkLawsBesides
import Derived.Below
import Derived.Deep.MidRow
import Derived.Stop.CallBack
import Derived.Stop.IfaceNil
import GoSem.ClaimData
namespace Go.Proofs.Qxb6612597aFmt
open Go.RowKit Go.Extern.Stop Go.Stop Go.Extern
set_option linter.unusedVariables false
theorem cells32 : Tryf.prog.cellsOf 32 = 41 := by kernel_rfl
theorem cells30 : Tryf.prog.cellsOf 30 = 3 := by kernel_rfl

theorem newParts_any (p q r : Bool) (w : World) :
    Calls Tryf.prog 7 #[.bool p, .bool q, .bool r] w fun e w' => e = .returned (.agg #[.bool p, .bool q, .bool r]) ∧ Below w.heap.size w w' := by
  go_enter Tryf.func7, Tryf.ntmps7
  go_wp2
  exact bodyPost_ret (v := .agg #[.bool p, .bool q, .bool r]) (by simp [results, Tryf.results7, go_sem]) rfl ⟨rfl, (Below.refl _ _).alloc (Nat.le_refl _) _⟩

def blkL (s : Int) (p q r : Bool) : List Value :=
  [.int .u64 s, .int .u8 0, .int .u8 0, .int .u8 0, .int .u8 0, .int .u8 0, .int .u8 0, .int .u8 0, .int .u8 0, .int .u8 0, .int .u8 0, .int .u8 0, .int .u8 0, .int .u8 0, .int .u8 0, .int .u8 0, .int .u8 0,
   .int .u8 0, .int .u8 0, .int .u8 0, .int .u8 0, .int .u8 0, .int .u8 0, .int .u8 0, .int .u8 0, .int .u8 0, .int .u8 0, .int .u8 0, .int .u8 0, .int .u8 0, .int .u8 0, .int .u8 0, .int .u8 0,
   .int .u64 0, .pointer none, .slice none 0 0, .slice none 0 0, .pointer none, .bool p, .bool q, .bool r]
theorem blkL_length (s : Int) (p q r : Bool) : (blkL s p q r).length = 41 := rfl
theorem size32 : (Tryf.prog.info? 32).map (·.size) = some 41 := by kernel_rfl
theorem blkL_one (s : Int) (p q r : Bool) : (blkL s p q r).toArray.all (·.oneCell') = true := all_oneCell_toArray (by simp [blkL, Value.oneCell'])

theorem there_new (w : World) (cs : Array Value) (t : TypeId) : (w.alloc (.cells cs t)).there w.heap.size 0 cs.size := fun j hj => by
  have h := heap_alloc_new w (.cells cs t)
  refine ⟨?_, frozen_of_row _ _ _ _ _ h⟩
  rw [cell_of_row _ _ _ _ _ _ h]
  simp [hj]

def zeroBlk : Array Value := (blkL 0 false false false).toArray
theorem below_setCells {B : Nat} {a w : World} (h : Below B a w) {b : Nat} (hb : B ≤ b) : ∀ (vs : List Value) (o : Nat), Below B a (w.setCells b o vs) := by
  intro vs
  induction vs generalizing w with
  | nil => intro o; exact h
  | cons v vs ih => intro o; exact ih (h.setCell (p := ⟨b, o, none⟩) hb v) (o + 1)
set_option maxHeartbeats 1000000 in
theorem newBlock_any (s : Int) (p q r : Bool) (w : World) :
    Calls Tryf.prog 5 #[.int .u64 s, .bool p, .bool q, .bool r] w fun e w' => e = .returned (.agg (blkL s p q r).toArray) ∧ Below w.heap.size w w' := by
  go_enter Tryf.func5, Tryf.ntmps5
  go_wp2_with (refine wpList_store_mid rfl 32 (.tmp 8) (.tmp 14) rfl w.heap.size 0 (blkL s p q r).toArray rfl rfl (there_new w _ 32) size32 (blkL_one s p q r) ?_)
  have hr := World.rangeAt_setCells_same (w.alloc (.cells zeroBlk 32)) w.heap.size 0 (blkL s p q r) (there_new w zeroBlk 32)
  have hb : Below w.heap.size w ((w.alloc (.cells zeroBlk 32)).setCells w.heap.size 0 (blkL s p q r)) := below_setCells ((Below.refl _ _).alloc (Nat.le_refl _) _) (Nat.le_refl _) _ _
  show bodyPost _ _ _ _ _ ((w.alloc (.cells zeroBlk 32)).setCells w.heap.size 0 (blkL s p q r))
  generalize (w.alloc (.cells zeroBlk 32)).setCells w.heap.size 0 (blkL s p q r) = W at hr hb
  have hl := run_loadVar_mid (P := Tryf.prog) W w.heap.size 0 32 (blkL s p q r) _ hr Tryf.underlying32 rfl size32
  exact bodyPost_ret (v := .agg (blkL s p q r).toArray) (by simp [results, Tryf.results5, Act.put, asAddr, hl]) rfl ⟨rfl, hb⟩
end Go.Proofs.Qxb6612597aFmt
