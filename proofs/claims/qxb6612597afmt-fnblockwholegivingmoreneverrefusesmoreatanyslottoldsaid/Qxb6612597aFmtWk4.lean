import Derived.Test.Qxb6612597aFmtWk3
namespace Go.Proofs.Qxb6612597aFmt
open Go.RowKit Go.Extern.Stop Go.Stop Go.Extern
set_option linter.unusedVariables false

theorem range_new (w : World) (cs : List Value) (t : TypeId) : (w.alloc (.cells cs.toArray t)).rangeAt w.heap.size 0 cs := fun j v hv => by
  rw [cell_of_row _ _ _ _ _ _ (heap_alloc_new w (.cells cs.toArray t))]
  simpa using hv

set_option maxHeartbeats 1000000 in
theorem blockWhole_ok (s : Int) (p q r p' q' r' : Bool) (w : World) (h : refused p q r p' q' r' = false) :
    Calls Tryf.prog 6 #[.agg (blkL s p q r).toArray, .agg #[.bool p', .bool q', .bool r']] w fun e w' => e = .returned .nilIface ∧ Below w.heap.size w w' := by
  have HH : Hid (refused p q r p' q' r' = false) := h
  clear h
  have hr : Hid (((w.alloc (.cells (blkL s p q r).toArray 32)).alloc (.cells #[.bool p', .bool q', .bool r'] 30)).rangeAt w.heap.size 0 (blkL s p q r)) := World.rangeAt_alloc (range_new w _ 32) _
  go_enter Tryf.func6, Tryf.ntmps6
  go_wp2_with (refine wpList_load_mid rfl 32 (.tmp 2) rfl w.heap.size 0 rfl (blkL s p q r) _ hr.out Tryf.underlying32 rfl size32 ?_)
  refine (whole_ok s p q r p' q' r' _ HH.out).mono ?_
  rintro e w' ⟨rfl, hb⟩
  go_wp2_with fail
  go_ret
  exact ⟨rfl, (((Below.refl _ _).alloc (Nat.le_refl _) _).alloc (by simp) _).trans (hb.mono (by simp; omega))⟩

set_option maxHeartbeats 1000000 in
theorem blockWhole_no (F : Interp) (s : Int) (p q r p' q' r' : Bool) (w : World) (hF : F.answers w.tape) (h : refused p q r p' q' r' = true) :
    Calls Tryf.prog 6 #[.agg (blkL s p q r).toArray, .agg #[.bool p', .bool q', .bool r']] w fun e w' => ∃ x, e = .returned (.iface 45 (.pointer (some x))) ∧ Below w.heap.size w w' := by
  have HH : Hid (refused p q r p' q' r' = true) := h
  clear h
  have HF : Hid (F.answers w.tape) := hF
  clear hF
  have hr : Hid (((w.alloc (.cells (blkL s p q r).toArray 32)).alloc (.cells #[.bool p', .bool q', .bool r'] 30)).rangeAt w.heap.size 0 (blkL s p q r)) := World.rangeAt_alloc (range_new w _ 32) _
  go_enter Tryf.func6, Tryf.ntmps6
  go_wp2_with (refine wpList_load_mid rfl 32 (.tmp 2) rfl w.heap.size 0 rfl (blkL s p q r) _ hr.out Tryf.underlying32 rfl size32 ?_)
  refine (whole_no F s p q r p' q' r' ((w.alloc _).alloc _) HF.out HH.out).mono ?_
  rintro e w' ⟨x, rfl, hb⟩
  go_wp2_with fail
  go_ret
  exact ⟨_, rfl, (((Below.refl _ _).alloc (Nat.le_refl _) _).alloc (by simp) _).trans (hb.mono (by simp; omega))⟩
end Go.Proofs.Qxb6612597aFmt
