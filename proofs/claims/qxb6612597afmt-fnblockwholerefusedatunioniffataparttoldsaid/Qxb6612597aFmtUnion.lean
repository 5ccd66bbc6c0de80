import Derived.Test.Qxb6612597aFmtRow
import Derived.Deep.RegionHeld3
import Derived.Deep.DrawnRows
import Derived.Deep.DeepCutAuto
namespace Go.Proofs.Qxb6612597aFmt
open Go.RowKit Go.Extern.Stop Go.Stop Go.Extern
set_option linter.unusedVariables false
attribute [local go_sem ↓] Go.wp_at_zero Go.wp_at_succ exec_load32

set_option maxHeartbeats 8000000 in
theorem walk3 (F : Interp) (s : Int) (gp gw gr ap aw ar cp cw cr : Bool) (w : World) (hF : F.answers w.tape) :
    Calls Tryf.prog 3 #[.int .u64 s, .bool gp, .bool gw, .bool gr, .bool ap, .bool aw, .bool ar, .bool cp, .bool cw, .bool cr] w fun e w' => e = .returned (.bool true) ∧ Below w.heap.size w w' := by
  have HF : Hid (F.answers w.tape) := hF
  clear hF
  go_enter Tryf.func3, Tryf.ntmps3
  go_wp2_with fail
  refine (newBlock_any s gp gw gr w).mono ?_
  rintro e w1 ⟨rfl, hb1⟩
  go_wp2_with (refine wpList_store_mid rfl 32 (.tmp 21) (.tmp 30) rfl w1.heap.size 0 (blkL s gp gw gr).toArray rfl rfl (there_new w1 _ 32) size32 (blkL_one s gp gw gr) ?_)
  have hr := World.rangeAt_setCells_same (w1.alloc (.cells zeroBlk 32)) w1.heap.size 0 (blkL s gp gw gr) (there_new w1 zeroBlk 32)
  have hb : Below w.heap.size w ((w1.alloc (.cells zeroBlk 32)).setCells w1.heap.size 0 (blkL s gp gw gr)) := below_setCells (hb1.alloc hb1.size _) hb1.size _ _
  have hz : w1.heap.size < ((w1.alloc (.cells zeroBlk 32)).setCells w1.heap.size 0 (blkL s gp gw gr)).heap.size := by
    have := (below_setCells (Below.refl 0 (w1.alloc (.cells zeroBlk 32))) (Nat.zero_le w1.heap.size) (blkL s gp gw gr) 0).size
    simp at this ⊢; omega
  have HR : Hid (Rest F w w1.heap.size (blkL s gp gw gr) ((w1.alloc (.cells zeroBlk 32)).setCells w1.heap.size 0 (blkL s gp gw gr))) := ⟨by rw [hb.tape]; exact HF.out, hb, hb1.size, hz, hr⟩
  clear hz hb hr
  change Code.wp _ _ _ { tmps := _, defers := [] } ((w1.alloc (.cells zeroBlk 32)).setCells w1.heap.size 0 (blkL s gp gw gr))
  generalize (w1.alloc (.cells zeroBlk 32)).setCells w1.heap.size 0 (blkL s gp gw gr) = W1 at HR
  generalize w1.heap.size = B at HR
  clear hb1
  go_cut [22] (fun t wx => t = .bool (refused gp gw gr ap aw ar) ∧ Hid (Rest F w B (blkL s gp gw gr) wx))
  case first =>
    cases hX : refused gp gw gr ap aw ar
    · have HX : Hid (refused gp gw gr ap aw ar = false) := hX
      clear hX
      go_region_held3 (fun W => okRow W (.pointer (some ⟨B, 0, none⟩)) = true ∧ rowOf W (.pointer (some ⟨B, 0, none⟩)) = (blkL s gp gw gr).toArray ∧ Hid (Rest F w B (blkL s gp gw gr) W)) (first | exact Rest.keep (Below.refl _ _).drew HR | (go_split_ands; exact Rest.keep hb3 (by assumption)) | (go_split_ands; exact Rest.keep hb2 (by assumption))) (first | (go_at_call 7; refine (newParts_any _ _ _ _).mono ?_; rintro e w2 ⟨rfl, hb2⟩) | (go_at_call 6; refine (blockWhole_ok _ _ _ _ _ _ _ _ HX.out).mono ?_; rintro e w3 ⟨rfl, hb3⟩))
      go_wp2_with fail
      go_meet
      case rel => exact ⟨by rw [HX.out], by go_split_ands; assumption⟩
    · have HX : Hid (refused gp gw gr ap aw ar = true) := hX
      clear hX
      go_region_held3 (fun W => okRow W (.pointer (some ⟨B, 0, none⟩)) = true ∧ rowOf W (.pointer (some ⟨B, 0, none⟩)) = (blkL s gp gw gr).toArray ∧ Hid (Rest F w B (blkL s gp gw gr) W)) (first | exact Rest.keep (Below.refl _ _).drew HR | (go_split_ands; exact Rest.keep hb3 (by assumption)) | (go_split_ands; exact Rest.keep hb2 (by assumption))) (first | (go_at_call 7; refine (newParts_any _ _ _ _).mono ?_; rintro e w2 ⟨rfl, hb2⟩) | (go_at_call 6; refine (blockWhole_no F _ _ _ _ _ _ _ _ ?_ HX.out).mono ?_; (go_split_ands; exact Rest.ans (by assumption)); rintro e w3 ⟨x, rfl, hb3⟩))
      go_wp2_with fail
      go_meet
      case rel => exact ⟨by rw [HX.out], by go_split_ands; assumption⟩
  case rest =>
  obtain ⟨rfl, H1⟩ := hcut
  go_upto_region 3 with fail
  go_cut [23] (fun t wx => t = .bool (refused gp gw gr cp cw cr) ∧ Hid (Rest F w B (blkL s gp gw gr) wx))
  case first =>
    cases hX : refused gp gw gr cp cw cr
    · have HX : Hid (refused gp gw gr cp cw cr = false) := hX
      clear hX
      go_region_held3 (fun W => okRow W (.pointer (some ⟨B, 0, none⟩)) = true ∧ rowOf W (.pointer (some ⟨B, 0, none⟩)) = (blkL s gp gw gr).toArray ∧ Hid (Rest F w B (blkL s gp gw gr) W)) (first | exact Rest.keep (Below.refl _ _).drew H1 | (go_split_ands; exact Rest.keep hb3 (by assumption)) | (go_split_ands; exact Rest.keep hb2 (by assumption))) (first | (go_at_call 7; refine (newParts_any _ _ _ _).mono ?_; rintro e w2 ⟨rfl, hb2⟩) | (go_at_call 6; refine (blockWhole_ok _ _ _ _ _ _ _ _ HX.out).mono ?_; rintro e w3 ⟨rfl, hb3⟩))
      go_wp2_with fail
      go_meet
      case rel => exact ⟨by rw [HX.out], by go_split_ands; assumption⟩
    · have HX : Hid (refused gp gw gr cp cw cr = true) := hX
      clear hX
      go_region_held3 (fun W => okRow W (.pointer (some ⟨B, 0, none⟩)) = true ∧ rowOf W (.pointer (some ⟨B, 0, none⟩)) = (blkL s gp gw gr).toArray ∧ Hid (Rest F w B (blkL s gp gw gr) W)) (first | exact Rest.keep (Below.refl _ _).drew H1 | (go_split_ands; exact Rest.keep hb3 (by assumption)) | (go_split_ands; exact Rest.keep hb2 (by assumption))) (first | (go_at_call 7; refine (newParts_any _ _ _ _).mono ?_; rintro e w2 ⟨rfl, hb2⟩) | (go_at_call 6; refine (blockWhole_no F _ _ _ _ _ _ _ _ ?_ HX.out).mono ?_; (go_split_ands; exact Rest.ans (by assumption)); rintro e w3 ⟨x, rfl, hb3⟩))
      go_wp2_with fail
      go_meet
      case rel => exact ⟨by rw [HX.out], by go_split_ands; assumption⟩
  case rest =>
  obtain ⟨rfl, H2⟩ := hcut
  go_upto_region 4 with fail
  go_cut [24] (fun t wx => t = .bool (refused gp gw gr (ap || cp) (aw || cw) (ar || cr)) ∧ Hid (Rest F w B (blkL s gp gw gr) wx))
  case first =>
    cases hX : refused gp gw gr (ap || cp) (aw || cw) (ar || cr)
    · have HX : Hid (refused gp gw gr (ap || cp) (aw || cw) (ar || cr) = false) := hX
      clear hX
      cases ap <;> cases aw <;> cases ar <;> simp only [Bool.false_or, Bool.true_or] at HX
      all_goals
        have k1 := Rest.keep (Below.refl _ _).drew H2
        refine wp_region_held_drew (S := (fun W => okRow W (.pointer (some ⟨B, 0, none⟩)) = true ∧ rowOf W (.pointer (some ⟨B, 0, none⟩)) = (blkL s gp gw gr).toArray ∧ Hid (Rest F w B (blkL s gp gw gr) W))) (by kernel_rfl) k1 (fun _ => ?_)
        first
          | (refine wpAnyH_take (i := 0) (v := undef) ((List.getElem?_toArray).trans rfl) (by kernel_rfl) (by kernel_rfl) (by kernel_rfl) (fun _ _ _ h => h) (Or.inr ⟨by rfl, rfl⟩) (by assumption) ?_; simp only [Act.put, List.setIfInBounds_toArray, List.set_cons_zero, List.set_cons_succ])
          | (refine wpAnyH_take (i := 0) (v := ?_) ((List.getElem?_toArray).trans rfl) (by kernel_rfl) (by kernel_rfl) (by kernel_rfl) (fun _ _ _ h => h) (Or.inl ⟨by rfl, ?_⟩) (by assumption) ?_; rotate_left; (intro w hSw); (try dsimp only at hSw); go_simp; (first | with_reducible rfl | skip); simp only [Act.put, List.setIfInBounds_toArray, List.set_cons_zero, List.set_cons_succ])
        first
          | (refine wpAnyH_take (i := 1) (v := undef) ((List.getElem?_toArray).trans rfl) (by kernel_rfl) (by kernel_rfl) (by kernel_rfl) (fun _ _ _ h => h) (Or.inr ⟨by rfl, rfl⟩) (by assumption) ?_; simp only [Act.put, List.setIfInBounds_toArray, List.set_cons_zero, List.set_cons_succ])
          | (refine wpAnyH_take (i := 1) (v := ?_) ((List.getElem?_toArray).trans rfl) (by kernel_rfl) (by kernel_rfl) (by kernel_rfl) (fun _ _ _ h => h) (Or.inl ⟨by rfl, ?_⟩) (by assumption) ?_; rotate_left; (intro w hSw); (try dsimp only at hSw); go_simp; (first | with_reducible rfl | skip); simp only [Act.put, List.setIfInBounds_toArray, List.set_cons_zero, List.set_cons_succ])
        first
          | (refine wpAnyH_take (i := 2) (v := undef) ((List.getElem?_toArray).trans rfl) (by kernel_rfl) (by kernel_rfl) (by kernel_rfl) (fun _ _ _ h => h) (Or.inr ⟨by rfl, rfl⟩) (by assumption) ?_; simp only [Act.put, List.setIfInBounds_toArray, List.set_cons_zero, List.set_cons_succ])
          | (refine wpAnyH_take (i := 2) (v := ?_) ((List.getElem?_toArray).trans rfl) (by kernel_rfl) (by kernel_rfl) (by kernel_rfl) (fun _ _ _ h => h) (Or.inl ⟨by rfl, ?_⟩) (by assumption) ?_; rotate_left; (intro w hSw); (try dsimp only at hSw); go_simp; (first | with_reducible rfl | skip); simp only [Act.put, List.setIfInBounds_toArray, List.set_cons_zero, List.set_cons_succ])
        first
          | (refine wpAnyH_take (i := 3) (v := undef) ((List.getElem?_toArray).trans rfl) (by kernel_rfl) (by kernel_rfl) (by kernel_rfl) (fun _ _ _ h => h) (Or.inr ⟨by rfl, rfl⟩) (by assumption) ?_; simp only [Act.put, List.setIfInBounds_toArray, List.set_cons_zero, List.set_cons_succ])
          | (refine wpAnyH_take (i := 3) (v := ?_) ((List.getElem?_toArray).trans rfl) (by kernel_rfl) (by kernel_rfl) (by kernel_rfl) (fun _ _ _ h => h) (Or.inl ⟨by rfl, ?_⟩) (by assumption) ?_; rotate_left; (intro w hSw); (try dsimp only at hSw); go_simp; (first | with_reducible rfl | skip); simp only [Act.put, List.setIfInBounds_toArray, List.set_cons_zero, List.set_cons_succ])
        first
          | (refine wpAnyH_take (i := 4) (v := undef) ((List.getElem?_toArray).trans rfl) (by kernel_rfl) (by kernel_rfl) (by kernel_rfl) (fun _ _ _ h => h) (Or.inr ⟨by rfl, rfl⟩) (by assumption) ?_; simp only [Act.put, List.setIfInBounds_toArray, List.set_cons_zero, List.set_cons_succ])
          | (refine wpAnyH_take (i := 4) (v := ?_) ((List.getElem?_toArray).trans rfl) (by kernel_rfl) (by kernel_rfl) (by kernel_rfl) (fun _ _ _ h => h) (Or.inl ⟨by rfl, ?_⟩) (by assumption) ?_; rotate_left; (intro w hSw); (try dsimp only at hSw); go_simp; (first | with_reducible rfl | skip); simp only [Act.put, List.setIfInBounds_toArray, List.set_cons_zero, List.set_cons_succ])
        first
          | (refine wpAnyH_take (i := 5) (v := undef) ((List.getElem?_toArray).trans rfl) (by kernel_rfl) (by kernel_rfl) (by kernel_rfl) (fun _ _ _ h => h) (Or.inr ⟨by rfl, rfl⟩) (by assumption) ?_; simp only [Act.put, List.setIfInBounds_toArray, List.set_cons_zero, List.set_cons_succ])
          | (refine wpAnyH_take (i := 5) (v := ?_) ((List.getElem?_toArray).trans rfl) (by kernel_rfl) (by kernel_rfl) (by kernel_rfl) (fun _ _ _ h => h) (Or.inl ⟨by rfl, ?_⟩) (by assumption) ?_; rotate_left; (intro w hSw); (try dsimp only at hSw); go_simp; (first | with_reducible rfl | skip); simp only [Act.put, List.setIfInBounds_toArray, List.set_cons_zero, List.set_cons_succ])
        first
          | (refine wpAnyH_take (i := 6) (v := undef) ((List.getElem?_toArray).trans rfl) (by kernel_rfl) (by kernel_rfl) (by kernel_rfl) (fun _ _ _ h => h) (Or.inr ⟨by rfl, rfl⟩) (by assumption) ?_; simp only [Act.put, List.setIfInBounds_toArray, List.set_cons_zero, List.set_cons_succ])
          | (refine wpAnyH_take (i := 6) (v := ?_) ((List.getElem?_toArray).trans rfl) (by kernel_rfl) (by kernel_rfl) (by kernel_rfl) (fun _ _ _ h => h) (Or.inl ⟨by rfl, ?_⟩) (by assumption) ?_; rotate_left; (intro w hSw); (try dsimp only at hSw); go_simp; (first | with_reducible rfl | skip); simp only [Act.put, List.setIfInBounds_toArray, List.set_cons_zero, List.set_cons_succ])
        first
          | (refine wpAnyH_take (i := 7) (v := undef) ((List.getElem?_toArray).trans rfl) (by kernel_rfl) (by kernel_rfl) (by kernel_rfl) (fun _ _ _ h => h) (Or.inr ⟨by rfl, rfl⟩) (by assumption) ?_; simp only [Act.put, List.setIfInBounds_toArray, List.set_cons_zero, List.set_cons_succ])
          | (refine wpAnyH_take (i := 7) (v := ?_) ((List.getElem?_toArray).trans rfl) (by kernel_rfl) (by kernel_rfl) (by kernel_rfl) (fun _ _ _ h => h) (Or.inl ⟨by rfl, ?_⟩) (by assumption) ?_; rotate_left; (intro w hSw); (try dsimp only at hSw); go_simp; (first | with_reducible rfl | skip); simp only [Act.put, List.setIfInBounds_toArray, List.set_cons_zero, List.set_cons_succ])
        first
          | (refine wpAnyH_take (i := 8) (v := undef) ((List.getElem?_toArray).trans rfl) (by kernel_rfl) (by kernel_rfl) (by kernel_rfl) (fun _ _ _ h => h) (Or.inr ⟨by rfl, rfl⟩) (by assumption) ?_; simp only [Act.put, List.setIfInBounds_toArray, List.set_cons_zero, List.set_cons_succ])
          | (refine wpAnyH_take (i := 8) (v := ?_) ((List.getElem?_toArray).trans rfl) (by kernel_rfl) (by kernel_rfl) (by kernel_rfl) (fun _ _ _ h => h) (Or.inl ⟨by rfl, ?_⟩) (by assumption) ?_; rotate_left; (intro w hSw); (try dsimp only at hSw); go_simp; (first | with_reducible rfl | skip); simp only [Act.put, List.setIfInBounds_toArray, List.set_cons_zero, List.set_cons_succ])
        first
          | (refine wpAnyH_take (i := 9) (v := undef) ((List.getElem?_toArray).trans rfl) (by kernel_rfl) (by kernel_rfl) (by kernel_rfl) (fun _ _ _ h => h) (Or.inr ⟨by rfl, rfl⟩) (by assumption) ?_; simp only [Act.put, List.setIfInBounds_toArray, List.set_cons_zero, List.set_cons_succ])
          | (refine wpAnyH_take (i := 9) (v := ?_) ((List.getElem?_toArray).trans rfl) (by kernel_rfl) (by kernel_rfl) (by kernel_rfl) (fun _ _ _ h => h) (Or.inl ⟨by rfl, ?_⟩) (by assumption) ?_; rotate_left; (intro w hSw); (try dsimp only at hSw); go_simp; (first | with_reducible rfl | skip); simp only [Act.put, List.setIfInBounds_toArray, List.set_cons_zero, List.set_cons_succ])
        first
          | (refine wpAnyH_take (i := 10) (v := undef) ((List.getElem?_toArray).trans rfl) (by kernel_rfl) (by kernel_rfl) (by kernel_rfl) (fun _ _ _ h => h) (Or.inr ⟨by rfl, rfl⟩) (by assumption) ?_; simp only [Act.put, List.setIfInBounds_toArray, List.set_cons_zero, List.set_cons_succ])
          | (refine wpAnyH_take (i := 10) (v := ?_) ((List.getElem?_toArray).trans rfl) (by kernel_rfl) (by kernel_rfl) (by kernel_rfl) (fun _ _ _ h => h) (Or.inl ⟨by rfl, ?_⟩) (by assumption) ?_; rotate_left; (intro w hSw); (try dsimp only at hSw); go_simp; (first | with_reducible rfl | skip); simp only [Act.put, List.setIfInBounds_toArray, List.set_cons_zero, List.set_cons_succ])
        first
          | (refine wpAnyH_take (i := 11) (v := undef) ((List.getElem?_toArray).trans rfl) (by kernel_rfl) (by kernel_rfl) (by kernel_rfl) (fun _ _ _ h => h) (Or.inr ⟨by rfl, rfl⟩) (by assumption) ?_; simp only [Act.put, List.setIfInBounds_toArray, List.set_cons_zero, List.set_cons_succ])
          | (refine wpAnyH_take (i := 11) (v := ?_) ((List.getElem?_toArray).trans rfl) (by kernel_rfl) (by kernel_rfl) (by kernel_rfl) (fun _ _ _ h => h) (Or.inl ⟨by rfl, ?_⟩) (by assumption) ?_; rotate_left; (intro w hSw); (try dsimp only at hSw); go_simp; (first | with_reducible rfl | skip); simp only [Act.put, List.setIfInBounds_toArray, List.set_cons_zero, List.set_cons_succ])
        first
          | (refine wpAnyH_take (i := 12) (v := undef) ((List.getElem?_toArray).trans rfl) (by kernel_rfl) (by kernel_rfl) (by kernel_rfl) (fun _ _ _ h => h) (Or.inr ⟨by rfl, rfl⟩) (by assumption) ?_; simp only [Act.put, List.setIfInBounds_toArray, List.set_cons_zero, List.set_cons_succ])
          | (refine wpAnyH_take (i := 12) (v := ?_) ((List.getElem?_toArray).trans rfl) (by kernel_rfl) (by kernel_rfl) (by kernel_rfl) (fun _ _ _ h => h) (Or.inl ⟨by rfl, ?_⟩) (by assumption) ?_; rotate_left; (intro w hSw); (try dsimp only at hSw); go_simp; (first | with_reducible rfl | skip); simp only [Act.put, List.setIfInBounds_toArray, List.set_cons_zero, List.set_cons_succ])
        refine wpAnyH_ready (rs := [13]) (by kernel_rfl) (by simp) ?_
        refine AllReadyH.cons ((List.getElem?_toArray).trans rfl) (fun K hK => ?_) AllReadyH.nil
        go_simp
        refine (newParts_any _ _ _ _).mono ?_
        rintro e w2 ⟨rfl, hb2⟩
        have k2 := Rest.keep hb2 k1.2.2
        go_wp2_with fail
        refine hK.out _ _ k2 (fun _ => ?_)
        clear hK K
        try simp only [Act.put, List.setIfInBounds_toArray, List.set_cons_zero, List.set_cons_succ]
        refine wpAnyH_ready (rs := [14]) (by kernel_rfl) (by simp) ?_
        refine AllReadyH.cons ((List.getElem?_toArray).trans rfl) (fun K hK => ?_) AllReadyH.nil
        go_simp
        refine (blockWhole_ok _ _ _ _ _ _ _ _ HX.out).mono ?_
        rintro e w3 ⟨rfl, hb3⟩
        have k3 := Rest.keep hb3 k2.2.2
        go_wp2_with fail
        refine hK.out _ _ k3 (fun _ => ?_)
        clear hK K
        try simp only [Act.put, List.setIfInBounds_toArray, List.set_cons_zero, List.set_cons_succ]
        first
          | (refine wpAnyH_take (i := 15) (v := undef) ((List.getElem?_toArray).trans rfl) (by kernel_rfl) (by kernel_rfl) (by kernel_rfl) (fun _ _ _ h => h) (Or.inr ⟨by rfl, rfl⟩) (by assumption) ?_; simp only [Act.put, List.setIfInBounds_toArray, List.set_cons_zero, List.set_cons_succ])
          | (refine wpAnyH_take (i := 15) (v := ?_) ((List.getElem?_toArray).trans rfl) (by kernel_rfl) (by kernel_rfl) (by kernel_rfl) (fun _ _ _ h => h) (Or.inl ⟨by rfl, ?_⟩) (by assumption) ?_; rotate_left; (intro w hSw); (try dsimp only at hSw); go_simp; (first | with_reducible rfl | skip); simp only [Act.put, List.setIfInBounds_toArray, List.set_cons_zero, List.set_cons_succ])
        first
          | (refine wpAnyH_take (i := 16) (v := undef) ((List.getElem?_toArray).trans rfl) (by kernel_rfl) (by kernel_rfl) (by kernel_rfl) (fun _ _ _ h => h) (Or.inr ⟨by rfl, rfl⟩) (by assumption) ?_; simp only [Act.put, List.setIfInBounds_toArray, List.set_cons_zero, List.set_cons_succ])
          | (refine wpAnyH_take (i := 16) (v := ?_) ((List.getElem?_toArray).trans rfl) (by kernel_rfl) (by kernel_rfl) (by kernel_rfl) (fun _ _ _ h => h) (Or.inl ⟨by rfl, ?_⟩) (by assumption) ?_; rotate_left; (intro w hSw); (try dsimp only at hSw); go_simp; (first | with_reducible rfl | skip); simp only [Act.put, List.setIfInBounds_toArray, List.set_cons_zero, List.set_cons_succ])
        refine wpAnyH_done (by kernel_rfl) ?_ _
        go_wp2_with fail
        go_meet
        case rel => exact ⟨congrArg Value.bool HX.out.symm, k3.2.2⟩
    · have HX : Hid (refused gp gw gr (ap || cp) (aw || cw) (ar || cr) = true) := hX
      clear hX
      cases ap <;> cases aw <;> cases ar <;> simp only [Bool.false_or, Bool.true_or] at HX
      all_goals
        have k1 := Rest.keep (Below.refl _ _).drew H2
        refine wp_region_held_drew (S := (fun W => okRow W (.pointer (some ⟨B, 0, none⟩)) = true ∧ rowOf W (.pointer (some ⟨B, 0, none⟩)) = (blkL s gp gw gr).toArray ∧ Hid (Rest F w B (blkL s gp gw gr) W))) (by kernel_rfl) k1 (fun _ => ?_)
        first
          | (refine wpAnyH_take (i := 0) (v := undef) ((List.getElem?_toArray).trans rfl) (by kernel_rfl) (by kernel_rfl) (by kernel_rfl) (fun _ _ _ h => h) (Or.inr ⟨by rfl, rfl⟩) (by assumption) ?_; simp only [Act.put, List.setIfInBounds_toArray, List.set_cons_zero, List.set_cons_succ])
          | (refine wpAnyH_take (i := 0) (v := ?_) ((List.getElem?_toArray).trans rfl) (by kernel_rfl) (by kernel_rfl) (by kernel_rfl) (fun _ _ _ h => h) (Or.inl ⟨by rfl, ?_⟩) (by assumption) ?_; rotate_left; (intro w hSw); (try dsimp only at hSw); go_simp; (first | with_reducible rfl | skip); simp only [Act.put, List.setIfInBounds_toArray, List.set_cons_zero, List.set_cons_succ])
        first
          | (refine wpAnyH_take (i := 1) (v := undef) ((List.getElem?_toArray).trans rfl) (by kernel_rfl) (by kernel_rfl) (by kernel_rfl) (fun _ _ _ h => h) (Or.inr ⟨by rfl, rfl⟩) (by assumption) ?_; simp only [Act.put, List.setIfInBounds_toArray, List.set_cons_zero, List.set_cons_succ])
          | (refine wpAnyH_take (i := 1) (v := ?_) ((List.getElem?_toArray).trans rfl) (by kernel_rfl) (by kernel_rfl) (by kernel_rfl) (fun _ _ _ h => h) (Or.inl ⟨by rfl, ?_⟩) (by assumption) ?_; rotate_left; (intro w hSw); (try dsimp only at hSw); go_simp; (first | with_reducible rfl | skip); simp only [Act.put, List.setIfInBounds_toArray, List.set_cons_zero, List.set_cons_succ])
        first
          | (refine wpAnyH_take (i := 2) (v := undef) ((List.getElem?_toArray).trans rfl) (by kernel_rfl) (by kernel_rfl) (by kernel_rfl) (fun _ _ _ h => h) (Or.inr ⟨by rfl, rfl⟩) (by assumption) ?_; simp only [Act.put, List.setIfInBounds_toArray, List.set_cons_zero, List.set_cons_succ])
          | (refine wpAnyH_take (i := 2) (v := ?_) ((List.getElem?_toArray).trans rfl) (by kernel_rfl) (by kernel_rfl) (by kernel_rfl) (fun _ _ _ h => h) (Or.inl ⟨by rfl, ?_⟩) (by assumption) ?_; rotate_left; (intro w hSw); (try dsimp only at hSw); go_simp; (first | with_reducible rfl | skip); simp only [Act.put, List.setIfInBounds_toArray, List.set_cons_zero, List.set_cons_succ])
        first
          | (refine wpAnyH_take (i := 3) (v := undef) ((List.getElem?_toArray).trans rfl) (by kernel_rfl) (by kernel_rfl) (by kernel_rfl) (fun _ _ _ h => h) (Or.inr ⟨by rfl, rfl⟩) (by assumption) ?_; simp only [Act.put, List.setIfInBounds_toArray, List.set_cons_zero, List.set_cons_succ])
          | (refine wpAnyH_take (i := 3) (v := ?_) ((List.getElem?_toArray).trans rfl) (by kernel_rfl) (by kernel_rfl) (by kernel_rfl) (fun _ _ _ h => h) (Or.inl ⟨by rfl, ?_⟩) (by assumption) ?_; rotate_left; (intro w hSw); (try dsimp only at hSw); go_simp; (first | with_reducible rfl | skip); simp only [Act.put, List.setIfInBounds_toArray, List.set_cons_zero, List.set_cons_succ])
        first
          | (refine wpAnyH_take (i := 4) (v := undef) ((List.getElem?_toArray).trans rfl) (by kernel_rfl) (by kernel_rfl) (by kernel_rfl) (fun _ _ _ h => h) (Or.inr ⟨by rfl, rfl⟩) (by assumption) ?_; simp only [Act.put, List.setIfInBounds_toArray, List.set_cons_zero, List.set_cons_succ])
          | (refine wpAnyH_take (i := 4) (v := ?_) ((List.getElem?_toArray).trans rfl) (by kernel_rfl) (by kernel_rfl) (by kernel_rfl) (fun _ _ _ h => h) (Or.inl ⟨by rfl, ?_⟩) (by assumption) ?_; rotate_left; (intro w hSw); (try dsimp only at hSw); go_simp; (first | with_reducible rfl | skip); simp only [Act.put, List.setIfInBounds_toArray, List.set_cons_zero, List.set_cons_succ])
        first
          | (refine wpAnyH_take (i := 5) (v := undef) ((List.getElem?_toArray).trans rfl) (by kernel_rfl) (by kernel_rfl) (by kernel_rfl) (fun _ _ _ h => h) (Or.inr ⟨by rfl, rfl⟩) (by assumption) ?_; simp only [Act.put, List.setIfInBounds_toArray, List.set_cons_zero, List.set_cons_succ])
          | (refine wpAnyH_take (i := 5) (v := ?_) ((List.getElem?_toArray).trans rfl) (by kernel_rfl) (by kernel_rfl) (by kernel_rfl) (fun _ _ _ h => h) (Or.inl ⟨by rfl, ?_⟩) (by assumption) ?_; rotate_left; (intro w hSw); (try dsimp only at hSw); go_simp; (first | with_reducible rfl | skip); simp only [Act.put, List.setIfInBounds_toArray, List.set_cons_zero, List.set_cons_succ])
        first
          | (refine wpAnyH_take (i := 6) (v := undef) ((List.getElem?_toArray).trans rfl) (by kernel_rfl) (by kernel_rfl) (by kernel_rfl) (fun _ _ _ h => h) (Or.inr ⟨by rfl, rfl⟩) (by assumption) ?_; simp only [Act.put, List.setIfInBounds_toArray, List.set_cons_zero, List.set_cons_succ])
          | (refine wpAnyH_take (i := 6) (v := ?_) ((List.getElem?_toArray).trans rfl) (by kernel_rfl) (by kernel_rfl) (by kernel_rfl) (fun _ _ _ h => h) (Or.inl ⟨by rfl, ?_⟩) (by assumption) ?_; rotate_left; (intro w hSw); (try dsimp only at hSw); go_simp; (first | with_reducible rfl | skip); simp only [Act.put, List.setIfInBounds_toArray, List.set_cons_zero, List.set_cons_succ])
        first
          | (refine wpAnyH_take (i := 7) (v := undef) ((List.getElem?_toArray).trans rfl) (by kernel_rfl) (by kernel_rfl) (by kernel_rfl) (fun _ _ _ h => h) (Or.inr ⟨by rfl, rfl⟩) (by assumption) ?_; simp only [Act.put, List.setIfInBounds_toArray, List.set_cons_zero, List.set_cons_succ])
          | (refine wpAnyH_take (i := 7) (v := ?_) ((List.getElem?_toArray).trans rfl) (by kernel_rfl) (by kernel_rfl) (by kernel_rfl) (fun _ _ _ h => h) (Or.inl ⟨by rfl, ?_⟩) (by assumption) ?_; rotate_left; (intro w hSw); (try dsimp only at hSw); go_simp; (first | with_reducible rfl | skip); simp only [Act.put, List.setIfInBounds_toArray, List.set_cons_zero, List.set_cons_succ])
        first
          | (refine wpAnyH_take (i := 8) (v := undef) ((List.getElem?_toArray).trans rfl) (by kernel_rfl) (by kernel_rfl) (by kernel_rfl) (fun _ _ _ h => h) (Or.inr ⟨by rfl, rfl⟩) (by assumption) ?_; simp only [Act.put, List.setIfInBounds_toArray, List.set_cons_zero, List.set_cons_succ])
          | (refine wpAnyH_take (i := 8) (v := ?_) ((List.getElem?_toArray).trans rfl) (by kernel_rfl) (by kernel_rfl) (by kernel_rfl) (fun _ _ _ h => h) (Or.inl ⟨by rfl, ?_⟩) (by assumption) ?_; rotate_left; (intro w hSw); (try dsimp only at hSw); go_simp; (first | with_reducible rfl | skip); simp only [Act.put, List.setIfInBounds_toArray, List.set_cons_zero, List.set_cons_succ])
        first
          | (refine wpAnyH_take (i := 9) (v := undef) ((List.getElem?_toArray).trans rfl) (by kernel_rfl) (by kernel_rfl) (by kernel_rfl) (fun _ _ _ h => h) (Or.inr ⟨by rfl, rfl⟩) (by assumption) ?_; simp only [Act.put, List.setIfInBounds_toArray, List.set_cons_zero, List.set_cons_succ])
          | (refine wpAnyH_take (i := 9) (v := ?_) ((List.getElem?_toArray).trans rfl) (by kernel_rfl) (by kernel_rfl) (by kernel_rfl) (fun _ _ _ h => h) (Or.inl ⟨by rfl, ?_⟩) (by assumption) ?_; rotate_left; (intro w hSw); (try dsimp only at hSw); go_simp; (first | with_reducible rfl | skip); simp only [Act.put, List.setIfInBounds_toArray, List.set_cons_zero, List.set_cons_succ])
        first
          | (refine wpAnyH_take (i := 10) (v := undef) ((List.getElem?_toArray).trans rfl) (by kernel_rfl) (by kernel_rfl) (by kernel_rfl) (fun _ _ _ h => h) (Or.inr ⟨by rfl, rfl⟩) (by assumption) ?_; simp only [Act.put, List.setIfInBounds_toArray, List.set_cons_zero, List.set_cons_succ])
          | (refine wpAnyH_take (i := 10) (v := ?_) ((List.getElem?_toArray).trans rfl) (by kernel_rfl) (by kernel_rfl) (by kernel_rfl) (fun _ _ _ h => h) (Or.inl ⟨by rfl, ?_⟩) (by assumption) ?_; rotate_left; (intro w hSw); (try dsimp only at hSw); go_simp; (first | with_reducible rfl | skip); simp only [Act.put, List.setIfInBounds_toArray, List.set_cons_zero, List.set_cons_succ])
        first
          | (refine wpAnyH_take (i := 11) (v := undef) ((List.getElem?_toArray).trans rfl) (by kernel_rfl) (by kernel_rfl) (by kernel_rfl) (fun _ _ _ h => h) (Or.inr ⟨by rfl, rfl⟩) (by assumption) ?_; simp only [Act.put, List.setIfInBounds_toArray, List.set_cons_zero, List.set_cons_succ])
          | (refine wpAnyH_take (i := 11) (v := ?_) ((List.getElem?_toArray).trans rfl) (by kernel_rfl) (by kernel_rfl) (by kernel_rfl) (fun _ _ _ h => h) (Or.inl ⟨by rfl, ?_⟩) (by assumption) ?_; rotate_left; (intro w hSw); (try dsimp only at hSw); go_simp; (first | with_reducible rfl | skip); simp only [Act.put, List.setIfInBounds_toArray, List.set_cons_zero, List.set_cons_succ])
        first
          | (refine wpAnyH_take (i := 12) (v := undef) ((List.getElem?_toArray).trans rfl) (by kernel_rfl) (by kernel_rfl) (by kernel_rfl) (fun _ _ _ h => h) (Or.inr ⟨by rfl, rfl⟩) (by assumption) ?_; simp only [Act.put, List.setIfInBounds_toArray, List.set_cons_zero, List.set_cons_succ])
          | (refine wpAnyH_take (i := 12) (v := ?_) ((List.getElem?_toArray).trans rfl) (by kernel_rfl) (by kernel_rfl) (by kernel_rfl) (fun _ _ _ h => h) (Or.inl ⟨by rfl, ?_⟩) (by assumption) ?_; rotate_left; (intro w hSw); (try dsimp only at hSw); go_simp; (first | with_reducible rfl | skip); simp only [Act.put, List.setIfInBounds_toArray, List.set_cons_zero, List.set_cons_succ])
        refine wpAnyH_ready (rs := [13]) (by kernel_rfl) (by simp) ?_
        refine AllReadyH.cons ((List.getElem?_toArray).trans rfl) (fun K hK => ?_) AllReadyH.nil
        go_simp
        refine (newParts_any _ _ _ _).mono ?_
        rintro e w2 ⟨rfl, hb2⟩
        have k2 := Rest.keep hb2 k1.2.2
        go_wp2_with fail
        refine hK.out _ _ k2 (fun _ => ?_)
        clear hK K
        try simp only [Act.put, List.setIfInBounds_toArray, List.set_cons_zero, List.set_cons_succ]
        refine wpAnyH_ready (rs := [14]) (by kernel_rfl) (by simp) ?_
        refine AllReadyH.cons ((List.getElem?_toArray).trans rfl) (fun K hK => ?_) AllReadyH.nil
        go_simp
        refine (blockWhole_no F _ _ _ _ _ _ _ _ (Rest.ans k2.2.2) HX.out).mono ?_
        rintro e w3 ⟨x, rfl, hb3⟩
        have k3 := Rest.keep hb3 k2.2.2
        go_wp2_with fail
        refine hK.out _ _ k3 (fun _ => ?_)
        clear hK K
        try simp only [Act.put, List.setIfInBounds_toArray, List.set_cons_zero, List.set_cons_succ]
        first
          | (refine wpAnyH_take (i := 15) (v := undef) ((List.getElem?_toArray).trans rfl) (by kernel_rfl) (by kernel_rfl) (by kernel_rfl) (fun _ _ _ h => h) (Or.inr ⟨by rfl, rfl⟩) (by assumption) ?_; simp only [Act.put, List.setIfInBounds_toArray, List.set_cons_zero, List.set_cons_succ])
          | (refine wpAnyH_take (i := 15) (v := ?_) ((List.getElem?_toArray).trans rfl) (by kernel_rfl) (by kernel_rfl) (by kernel_rfl) (fun _ _ _ h => h) (Or.inl ⟨by rfl, ?_⟩) (by assumption) ?_; rotate_left; (intro w hSw); (try dsimp only at hSw); go_simp; (first | with_reducible rfl | skip); simp only [Act.put, List.setIfInBounds_toArray, List.set_cons_zero, List.set_cons_succ])
        first
          | (refine wpAnyH_take (i := 16) (v := undef) ((List.getElem?_toArray).trans rfl) (by kernel_rfl) (by kernel_rfl) (by kernel_rfl) (fun _ _ _ h => h) (Or.inr ⟨by rfl, rfl⟩) (by assumption) ?_; simp only [Act.put, List.setIfInBounds_toArray, List.set_cons_zero, List.set_cons_succ])
          | (refine wpAnyH_take (i := 16) (v := ?_) ((List.getElem?_toArray).trans rfl) (by kernel_rfl) (by kernel_rfl) (by kernel_rfl) (fun _ _ _ h => h) (Or.inl ⟨by rfl, ?_⟩) (by assumption) ?_; rotate_left; (intro w hSw); (try dsimp only at hSw); go_simp; (first | with_reducible rfl | skip); simp only [Act.put, List.setIfInBounds_toArray, List.set_cons_zero, List.set_cons_succ])
        refine wpAnyH_done (by kernel_rfl) ?_ _
        go_wp2_with fail
        go_meet
        case rel => exact ⟨congrArg Value.bool HX.out.symm, k3.2.2⟩
  case rest =>
  obtain ⟨rfl, H3⟩ := hcut
  go_upto_region 5 with fail
  go_cut [25] (fun t wx => t = .bool (refused gp gw gr ap aw ar) ∧ Hid (Rest F w B (blkL s gp gw gr) wx))
  case first =>
    cases ap <;> cases gp <;> cases aw <;> cases gw <;> cases ar <;> cases gr <;> (go_wp2_with fail; go_meet; exact ⟨rfl, H3⟩)
  case rest =>
  obtain ⟨rfl, H4⟩ := hcut
  rw [refused_union]
  generalize refused gp gw gr ap aw ar = X
  generalize refused gp gw gr cp cw cr = Y
  have hb := Rest.bel H4
  cases X <;> cases Y <;> (go_wp2_with fail; go_ret; exact ⟨rfl, hb⟩)
end Go.Proofs.Qxb6612597aFmt
