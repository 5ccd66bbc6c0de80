import Derived.Test.Qxb6612602aV
namespace Go.Proofs.Qxb6612602a
open Go.ChangeShapes Go.WideShapes Go.ChangeAt Go.RowKit
open Go.MuLone
set_option linter.unusedVariables false
namespace U

/-! ### The lock's functions and types under this dump's numbers (after the guide's StatsLocks.lean) -/
abbrev muLink : Go.Conc.Locks.MuLink := { lock := 21, unlock := 22, ilock := 24, iunlock := 25, lockSlow := 31, unlockSlow := 34, disable := 27, enable := 29, acquire := 30, relMerge := 32, cas32 := 28, add32 := 33, tMutex := 51, tIMutex := 49, tPMutex := 67, tPIMutex := 68, tPI32 := 70, tUP := 72, tNoCopy := 46, tU32 := 47 }
theorem muLib : Go.Conc.Locks.MuLib Try.prog muLink :=
  ⟨Try.func21, Try.func22, Try.func24, Try.func25, Try.func27, Try.func29, Try.func30, Try.func32, Try.func28, Try.func33,
   Try.underlying49, Try.runUnderlying49, Try.sizeOf49, Try.isAgg49, Try.zeroValue49, Try.underlying51, Try.runUnderlying51, Try.sizeOf51, Try.isAgg51, Try.zeroValue51, Try.underlying67, Try.runUnderlying67, Try.sizeOf67, Try.isAgg67, Try.zeroValue67, Try.underlying68, Try.runUnderlying68, Try.sizeOf68, Try.isAgg68, Try.zeroValue68, Try.underlying70, Try.runUnderlying70, Try.sizeOf70, Try.isAgg70, Try.zeroValue70, Try.underlying72, Try.runUnderlying72, Try.sizeOf72, Try.isAgg72, Try.zeroValue72, Try.underlying46, Try.runUnderlying46, Try.sizeOf46, Try.isAgg46, Try.zeroValue46, Try.underlying21, Try.runUnderlying21, Try.sizeOf21, Try.isAgg21, Try.zeroValue21, (by kernel_rfl)⟩

/-- What an unlisted view comes to: a view V in a new block, its list a copy in a new block g; below the registry's own block nothing has turned. -/
def UvEnd (w : World) (R : Nat) (xs : List Int) (next com : Int) (e : Ending) (w' : World) : Prop :=
  ∃ (g V : Nat) (a' : Option Addr) (c' : Nat), e = .returned (.pointer (some ⟨V, 0, none⟩)) ∧ Own w' g (.slice a' xs.length c') xs ∧ w.heap.size ≤ g ∧ w.heap.size ≤ V ∧
    w'.heap[V]? = some (.cells #[.slice a' xs.length c', .int .u64 (xs.getD 0 next), .int .u64 next, .int .u64 com, .pointer none] 65 (0, 0)) ∧ Below R w w'

theorem reg_facts {w : World} {R : Nat} {v : Value} {next com st : Int} (h : w.heap[R]? = some (.cells (reg v next com st) 62 (0, 0))) :
    R < w.heap.size ∧ w.cell? ⟨R, 0, none⟩ = some (.int .i32 st) ∧ w.frozen? ⟨R, 0, none⟩ = false ∧ w.cell? ⟨R, 5, none⟩ = some v ∧ w.cell? ⟨R, 4, none⟩ = some (.int .u64 next) ∧ w.cell? ⟨R, 7, none⟩ = some (.int .u64 com) := by
  refine ⟨(Array.getElem?_eq_some_iff.1 h).1, ?_, frozen_of_row _ _ _ _ _ h, ?_, ?_, ?_⟩ <;> (rw [cell_of_row _ _ _ _ _ _ h]; rfl)

set_option maxHeartbeats 1000000 in
theorem unlisted_any (R : Nat) (a : Option Addr) (c : Nat) (xs : List Int) (next com : Int) (hlen : xs.length ≤ 1048577) (w : World)
    (hR : w.heap[R]? = some (.cells (reg (.slice a xs.length c) next com 0) 62 (0, 0))) (hrd : Rd w a xs) (hne : ∀ b off, a = some ⟨b, off, none⟩ → b ≠ R) (hn : a = none → xs = []) :
    Calls Try.prog 19 #[.pointer (some ⟨R, 0, none⟩)] w (UvEnd w R xs next com) := by
  obtain ⟨hlt, h0, f0, h5, h4, h7⟩ := reg_facts hR
  have hb1 : Below R w (w.setCell ⟨R, 0, none⟩ (.int .i32 1)) := (Below.refl _ _).setCell (p := ⟨R, 0, none⟩) (Nat.le_refl R) _
  have hsz1 : (w.setCell ⟨R, 0, none⟩ (.int .i32 1)).heap.size = w.heap.size := by simp [World.setCell]
  have HV : Hid (Vr (w.setCell ⟨R, 0, none⟩ (.int .i32 1)) R a xs.length c xs next com (w.setCell ⟨R, 0, none⟩ (.int .i32 1))) := by
    refine ⟨by rw [hsz1]; exact hlt, ?_, ?_, ?_, ?_, Below.refl _ _⟩
    · rw [World.cell?_setCell_other _ _ _ _ (by simp)]; exact h5
    · rw [World.cell?_setCell_other _ _ _ _ (by simp)]; exact h4
    · rw [World.cell?_setCell_other _ _ _ _ (by simp)]; exact h7
    · intro hp
      obtain ⟨b, off, rfl, hbl, hc⟩ := hrd hp
      refine ⟨b, off, rfl, by rw [hsz1]; exact hbl, fun i hi => ?_⟩
      have hbR := hne b off rfl
      rw [World.cell?_setCell_other _ _ _ _ (fun h => hbR (congrArg Addr.block h).symm)]
      exact hc i hi
  have HN := hid hn
  have HS := hid hsz1
  have HB := hid hb1
  have HC : Hid ((w.setCell ⟨R, 0, none⟩ (.int .i32 1)).cell? ⟨R, 0, none⟩ = some (.int .i32 1)) := World.cell?_setCell_same w ⟨R, 0, none⟩ (.int .i32 1) h0
  have HZ : Hid ((w.setCell ⟨R, 0, none⟩ (.int .i32 1)).frozen? ⟨R, 0, none⟩ = false) := by rw [Hid]; simp [f0]
  have HLT := hid hlt
  clear hR hrd hne hn h5 h4 h7 hb1 hsz1 hlt
  go_enter_defers Try.func19, Try.ntmps19
  go_wp2_with (go_at_call 21; refine (lock_free muLib ⟨R, 0, none⟩ _ h0 f0).mono ?_; rintro e w' ⟨rfl, rfl⟩)
  refine (makeView_any R a c xs next com hlen _ HV.out HN.out).mono ?_
  rintro e w2 ⟨g, V, a', c', rfl, hO, hge, hVe, hV, hb2⟩
  have hO' := hid hO
  have hV' := hid hV
  have hb2' := hid hb2
  clear hO hV hb2
  go_wp2_with fail
  refine leaves_cons (f := 22) (args := #[.pointer (some ⟨R, 0, none⟩)]) (by simp) (by simp [go_sem]) ?_
  refine (unlock_deferred muLib ⟨R, 0, none⟩ .returning _ ?_ ?_).mono ?_
  · rw [hb2'.out.cell (p := ⟨R, 0, none⟩) (by rw [HS.out]; exact HLT.out)]; exact HC.out
  · rw [hb2'.out.frozen (p := ⟨R, 0, none⟩) (by rw [HS.out]; exact HLT.out)]; exact HZ.out
  rintro e u' w3 ⟨rfl, rfl, rfl⟩
  refine ⟨_, results_tmp rfl _ _ _, g, V, a', c', rfl, ?_, by rw [← HS.out]; exact hge, by rw [← HS.out]; exact hVe, ?_, ?_⟩
  · refine hO'.out.of_block fun hg => Below.heap_setCell _ _ _ _ ?_
    have := HS.out; have := HLT.out
    simp; omega
  · rw [Below.heap_setCell _ _ _ _ (by have := HS.out; have := HLT.out; simp; omega)]
    exact hV'.out
  · refine (HB.out.trans (hb2'.out.mono ?_)).setCell (p := ⟨R, 0, none⟩) (Nat.le_refl R) _
    have := HS.out; have := HLT.out; omega

set_option maxHeartbeats 400000 in
theorem zzUnlisted_any (R : Nat) (a : Option Addr) (c : Nat) (xs : List Int) (next com : Int) (hlen : xs.length ≤ 1048577) (w : World)
    (hR : w.heap[R]? = some (.cells (reg (.slice a xs.length c) next com 0) 62 (0, 0))) (hrd : Rd w a xs) (hne : ∀ b off, a = some ⟨b, off, none⟩ → b ≠ R) (hn : a = none → xs = []) :
    Calls Try.prog 12 #[.pointer (some ⟨R, 0, none⟩)] w (UvEnd w R xs next com) := by
  have H1 := hid hR
  have H2 := hid hrd
  have H3 := hid hne
  have H4 := hid hn
  clear hR hrd hne hn
  go_enter Try.func12, Try.ntmps12
  go_wp2_with fail
  refine (unlisted_any R a c xs next com hlen _ H1.out H2.out H3.out H4.out).mono ?_
  rintro e w' ⟨g, V, a', c', rfl, hO, hge, hVe, hV, hb⟩
  have HE : Hid (UvEnd w R xs next com (.returned (.pointer (some ⟨V, 0, none⟩))) w') := ⟨g, V, a', c', rfl, hO, hge, hVe, hV, hb⟩
  clear hO hV hb hge hVe
  go_wp2_with fail
  go_ret
  exact HE.out

set_option maxHeartbeats 400000 in
theorem viewFields_any (V : Nat) (a : Option Addr) (l c : Nat) (low next com : Int) (w : World)
    (hV : w.heap[V]? = some (.cells #[.slice a l c, .int .u64 low, .int .u64 next, .int .u64 com, .pointer none] 65 (0, 0))) :
    Calls Try.prog 14 #[.pointer (some ⟨V, 0, none⟩)] w fun e w' => e = .returned (.tuple #[.slice a l c, .int .u64 low, .int .u64 next, .int .u64 com, .bool true]) ∧ ∃ n, w' = w.drewN n := by
  have c0 : w.cell? ⟨V, 0, none⟩ = some (.slice a l c) := by rw [cell_of_row _ _ _ _ _ _ hV]; rfl
  have c1 : w.cell? ⟨V, 1, none⟩ = some (.int .u64 low) := by rw [cell_of_row _ _ _ _ _ _ hV]; rfl
  have c2 : w.cell? ⟨V, 2, none⟩ = some (.int .u64 next) := by rw [cell_of_row _ _ _ _ _ _ hV]; rfl
  have c3 : w.cell? ⟨V, 3, none⟩ = some (.int .u64 com) := by rw [cell_of_row _ _ _ _ _ _ hV]; rfl
  clear hV
  go_enter Try.func14, Try.ntmps14
  go_wp2
  go_quiet (fail)
  go_wp2
  exact bodyPost_ret (v := .tuple #[.slice a l c, .int .u64 low, .int .u64 next, .int .u64 com, .bool true]) (by simp [results, Try.results14]) rfl ⟨rfl, _, rfl⟩
end U
end Go.Proofs.Qxb6612602a
