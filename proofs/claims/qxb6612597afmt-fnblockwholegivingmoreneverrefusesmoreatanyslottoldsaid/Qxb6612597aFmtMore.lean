import Derived.Test.Qxb6612597aFmtRow
import Derived.Deep.DeepCutAuto
namespace Go.Proofs.Qxb6612597aFmt
open Go.RowKit Go.Extern.Stop Go.Stop Go.Extern
set_option linter.unusedVariables false
attribute [local go_sem ↓] Go.wp_at_zero Go.wp_at_succ

/-- What stands while the law runs: the tape answers as F does, nothing old has turned, block B holds the requirement. -/
def Rest3 (F : Interp) (w : World) (B : Nat) (rp rw rr : Bool) (W : World) : Prop :=
  F.answers W.tape ∧ Below w.heap.size w W ∧ w.heap.size ≤ B ∧ B < W.heap.size ∧ W.cell? ⟨B, 0, none⟩ = some (.bool rp) ∧ W.cell? ⟨B, 1, none⟩ = some (.bool rw) ∧ W.cell? ⟨B, 2, none⟩ = some (.bool rr)

theorem Rest3.keep {F : Interp} {w : World} {B : Nat} {rp rw rr : Bool} {W W' : World} (hb : Below W.heap.size W W') (hR : Hid (Rest3 F w B rp rw rr W)) :
    W'.cell? ⟨B, 0, none⟩ = some (.bool rp) ∧ W'.cell? ⟨B, 1, none⟩ = some (.bool rw) ∧ W'.cell? ⟨B, 2, none⟩ = some (.bool rr) ∧ Hid (Rest3 F w B rp rw rr W') := by
  obtain ⟨h1, h2, h3, h4, c0, c1, c2⟩ := hR.out
  have e0 := (hb.cell (p := ⟨B, 0, none⟩) h4).trans c0
  have e1 := (hb.cell (p := ⟨B, 1, none⟩) h4).trans c1
  have e2 := (hb.cell (p := ⟨B, 2, none⟩) h4).trans c2
  exact ⟨e0, e1, e2, by rw [hb.tape]; exact h1, h2.trans (hb.mono h2.size), h3, Nat.lt_of_lt_of_le h4 hb.size, e0, e1, e2⟩
theorem Rest3.ans {F : Interp} {w : World} {B : Nat} {rp rw rr : Bool} {W : World} (h : Hid (Rest3 F w B rp rw rr W)) : F.answers W.tape := h.out.1
theorem Rest3.bel {F : Interp} {w : World} {B : Nat} {rp rw rr : Bool} {W : World} (h : Hid (Rest3 F w B rp rw rr W)) : Below w.heap.size w W := h.out.2.1

theorem refused_more (p q r a b c x y z : Bool) (h : refused (p || a) (q || b) (r || c) x y z = true) : refused p q r x y z = true := by
  revert h; cases p <;> cases q <;> cases r <;> cases a <;> cases b <;> cases c <;> cases x <;> cases y <;> cases z <;> simp [refused]
theorem refused_bare (x y z : Bool) : refused false false false x y z = (x || y || z) := by cases x <;> cases y <;> cases z <;> rfl
theorem refused_full (x y z : Bool) : refused true true true x y z = false := by cases x <;> cases y <;> cases z <;> rfl

set_option maxHeartbeats 8000000 in
theorem walk4 (F : Interp) (s t : Int) (gp gw gr ep ew er rp rw rr : Bool) (w : World) (hF : F.answers w.tape) :
    Calls Tryf.prog 4 #[.int .u64 s, .int .u64 t, .bool gp, .bool gw, .bool gr, .bool ep, .bool ew, .bool er, .bool rp, .bool rw, .bool rr] w fun e w' => e = .returned (.bool true) ∧ Below w.heap.size w w' := by
  have HF : Hid (F.answers w.tape) := hF
  clear hF
  go_enter Tryf.func4, Tryf.ntmps4
  go_wp2_with fail
  refine (newParts_any rp rw rr w).mono ?_
  rintro e w1 ⟨rfl, hb1⟩
  go_upto_region 2 with fail
  have hb : Below w.heap.size w (w1.alloc (.cells #[.bool rp, .bool rw, .bool rr] 30)) := hb1.alloc hb1.size _
  have HR : Hid (Rest3 F w w1.heap.size rp rw rr (w1.alloc (.cells #[.bool rp, .bool rw, .bool rr] 30))) := ⟨by rw [hb.tape]; exact HF.out, hb, hb1.size, by simp, by simp [go_sem], by simp [go_sem], by simp [go_sem]⟩
  clear hb
  generalize w1.alloc (.cells #[.bool rp, .bool rw, .bool rr] 30) = W1 at HR
  generalize w1.heap.size = B at HR
  clear hb1
  go_cut [24] (fun t wx => t = .bool (refused (gp || ep) (gw || ew) (gr || er) rp rw rr) ∧ Hid (Rest3 F w B rp rw rr wx))
  case first =>
    cases hX : refused (gp || ep) (gw || ew) (gr || er) rp rw rr
    · have HX : Hid (refused (gp || ep) (gw || ew) (gr || er) rp rw rr = false) := hX
      clear hX
      cases gp <;> cases gw <;> cases gr <;> simp only [Bool.false_or, Bool.true_or] at HX
      all_goals
        have k1 := Rest3.keep (Below.refl _ _).drew HR
        refine wp_region_held_drew (S := (fun W => W.cell? ⟨B, 0, none⟩ = some (.bool rp) ∧ W.cell? ⟨B, 1, none⟩ = some (.bool rw) ∧ W.cell? ⟨B, 2, none⟩ = some (.bool rr) ∧ Hid (Rest3 F w B rp rw rr W))) (by kernel_rfl) k1 (fun _ => ?_)
        first
          | (refine wpAnyH_take (i := 0) (v := undef) ((List.getElem?_toArray).trans rfl) (by kernel_rfl) (by kernel_rfl) (by kernel_rfl) (fun _ _ _ h => h) (Or.inr ⟨by rfl, rfl⟩) (by assumption) ?_; simp only [Act.put, List.setIfInBounds_toArray, List.set_cons_zero, List.set_cons_succ])
          | (refine wpAnyH_take (i := 0) (v := ?_) ((List.getElem?_toArray).trans rfl) (by kernel_rfl) (by kernel_rfl) (by kernel_rfl) (fun _ _ _ h => h) (Or.inl ⟨by rfl, ?_⟩) (by assumption) ?_; rotate_left; (intro w hSw); (try dsimp only at hSw); go_simp; (first | with_reducible rfl | skip); simp only [Act.put, List.setIfInBounds_toArray, List.set_cons_zero, List.set_cons_succ])
        first
          | (refine wpAnyH_take (i := 1) (v := undef) ((List.getElem?_toArray).trans rfl) (by kernel_rfl) (by kernel_rfl) (by kernel_rfl) (fun _ _ _ h => h) (Or.inr ⟨by rfl, rfl⟩) (by assumption) ?_; simp only [Act.put, List.setIfInBounds_toArray, List.set_cons_zero, List.set_cons_succ])
          | (refine wpAnyH_take (i := 1) (v := ?_) ((List.getElem?_toArray).trans rfl) (by kernel_rfl) (by kernel_rfl) (by kernel_rfl) (fun _ _ _ h => h) (Or.inl ⟨by rfl, ?_⟩) (by assumption) ?_; rotate_left; (intro w hSw); (try dsimp only at hSw); go_simp; (first | with_reducible rfl | skip); simp only [Act.put, List.setIfInBounds_toArray, List.set_cons_zero, List.set_cons_succ])
        first
          | (refine wpAnyH_take (i := 2) (v := undef) ((List.getElem?_toArray).trans rfl) (by kernel_rfl) (by kernel_rfl) (by kernel_rfl) (fun _ _ _ h => h) (Or.inr ⟨by rfl, rfl⟩) (by assumption) ?_; simp only [Act.put, List.setIfInBounds_toArray, List.set_cons_zero, List.set_cons_succ])
          | (refine wpAnyH_take (i := 2) (v := ?_) ((List.getElem?_toArray).trans rfl) (by kernel_rfl) (by kernel_rfl) (by kernel_rfl) (fun _ _ _ h => h) (Or.inl ⟨by rfl, ?_⟩) (by assumption) ?_; rotate_left; (intro w hSw); (try dsimp only at hSw); go_simp; (first | with_reducible rfl | skip); simp only [Act.put, List.setIfInBounds_toArray, List.set_cons_zero, List.set_cons_succ])
        first
          | (refine wpAnyH_take (i := 3) (v := undef) ((List.getElem?_toArray).trans rfl) (by kernel_rfl) (by kernel_rfl) (by kernel_rfl) (fun _ _ _ h => h) (Or.inr ⟨by rfl, rfl⟩) (by assumption) ?_; simp only [Act.put, List.setIfInBounds_toArray, List.set_cons_zero, List.set_cons_succ])
          | (refine wpAnyH_take (i := 3) (v := ?_) ((List.getElem?_toArray).trans rfl) (by kernel_rfl) (by kernel_rfl) (by kernel_rfl) (fun _ _ _ h => h) (Or.inl ⟨by rfl, ?_⟩) (by assumption) ?_; rotate_left; (intro w hSw); (try dsimp only at hSw); go_simp; (first | with_reducible rfl | skip); simp only [Act.put, List.setIfInBounds_toArray, List.set_cons_zero, List.set_cons_succ])
        first
          | (refine wpAnyH_take (i := 4) (v := undef) ((List.getElem?_toArray).trans rfl) (by kernel_rfl) (by kernel_rfl) (by kernel_rfl) (fun _ _ _ h => h) (Or.inr ⟨by rfl, rfl⟩) (by assumption) ?_; simp only [Act.put, List.setIfInBounds_toArray, List.set_cons_zero, List.set_cons_succ])
          | (refine wpAnyH_take (i := 4) (v := ?_) ((List.getElem?_toArray).trans rfl) (by kernel_rfl) (by kernel_rfl) (by kernel_rfl) (fun _ _ _ h => h) (Or.inl ⟨by rfl, ?_⟩) (by assumption) ?_; rotate_left; (intro w hSw); (try dsimp only at hSw); go_simp; (first | with_reducible rfl | skip); simp only [Act.put, List.setIfInBounds_toArray, List.set_cons_zero, List.set_cons_succ])
        first
          | (refine wpAnyH_take (i := 5) (v := undef) ((List.getElem?_toArray).trans rfl) (by kernel_rfl) (by kernel_rfl) (by kernel_rfl) (fun _ _ _ h => h) (Or.inr ⟨by rfl, rfl⟩) (by assumption) ?_; simp only [Act.put, List.setIfInBounds_toArray, List.set_cons_zero, List.set_cons_succ])
          | (refine wpAnyH_take (i := 5) (v := ?_) ((List.getElem?_toArray).trans rfl) (by kernel_rfl) (by kernel_rfl) (by kernel_rfl) (fun _ _ _ h => h) (Or.inl ⟨by rfl, ?_⟩) (by assumption) ?_; rotate_left; (intro w hSw); (try dsimp only at hSw); go_simp; (first | with_reducible rfl | skip); simp only [Act.put, List.setIfInBounds_toArray, List.set_cons_zero, List.set_cons_succ])
        first
          | (refine wpAnyH_take (i := 6) (v := undef) ((List.getElem?_toArray).trans rfl) (by kernel_rfl) (by kernel_rfl) (by kernel_rfl) (fun _ _ _ h => h) (Or.inr ⟨by rfl, rfl⟩) (by assumption) ?_; simp only [Act.put, List.setIfInBounds_toArray, List.set_cons_zero, List.set_cons_succ])
          | (refine wpAnyH_take (i := 6) (v := ?_) ((List.getElem?_toArray).trans rfl) (by kernel_rfl) (by kernel_rfl) (by kernel_rfl) (fun _ _ _ h => h) (Or.inl ⟨by rfl, ?_⟩) (by assumption) ?_; rotate_left; (intro w hSw); (try dsimp only at hSw); go_simp; (first | with_reducible rfl | skip); simp only [Act.put, List.setIfInBounds_toArray, List.set_cons_zero, List.set_cons_succ])
        first
          | (refine wpAnyH_take (i := 7) (v := undef) ((List.getElem?_toArray).trans rfl) (by kernel_rfl) (by kernel_rfl) (by kernel_rfl) (fun _ _ _ h => h) (Or.inr ⟨by rfl, rfl⟩) (by assumption) ?_; simp only [Act.put, List.setIfInBounds_toArray, List.set_cons_zero, List.set_cons_succ])
          | (refine wpAnyH_take (i := 7) (v := ?_) ((List.getElem?_toArray).trans rfl) (by kernel_rfl) (by kernel_rfl) (by kernel_rfl) (fun _ _ _ h => h) (Or.inl ⟨by rfl, ?_⟩) (by assumption) ?_; rotate_left; (intro w hSw); (try dsimp only at hSw); go_simp; (first | with_reducible rfl | skip); simp only [Act.put, List.setIfInBounds_toArray, List.set_cons_zero, List.set_cons_succ])
        first
          | (refine wpAnyH_take (i := 8) (v := undef) ((List.getElem?_toArray).trans rfl) (by kernel_rfl) (by kernel_rfl) (by kernel_rfl) (fun _ _ _ h => h) (Or.inr ⟨by rfl, rfl⟩) (by assumption) ?_; simp only [Act.put, List.setIfInBounds_toArray, List.set_cons_zero, List.set_cons_succ])
          | (refine wpAnyH_take (i := 8) (v := ?_) ((List.getElem?_toArray).trans rfl) (by kernel_rfl) (by kernel_rfl) (by kernel_rfl) (fun _ _ _ h => h) (Or.inl ⟨by rfl, ?_⟩) (by assumption) ?_; rotate_left; (intro w hSw); (try dsimp only at hSw); go_simp; (first | with_reducible rfl | skip); simp only [Act.put, List.setIfInBounds_toArray, List.set_cons_zero, List.set_cons_succ])
        first
          | (refine wpAnyH_take (i := 9) (v := undef) ((List.getElem?_toArray).trans rfl) (by kernel_rfl) (by kernel_rfl) (by kernel_rfl) (fun _ _ _ h => h) (Or.inr ⟨by rfl, rfl⟩) (by assumption) ?_; simp only [Act.put, List.setIfInBounds_toArray, List.set_cons_zero, List.set_cons_succ])
          | (refine wpAnyH_take (i := 9) (v := ?_) ((List.getElem?_toArray).trans rfl) (by kernel_rfl) (by kernel_rfl) (by kernel_rfl) (fun _ _ _ h => h) (Or.inl ⟨by rfl, ?_⟩) (by assumption) ?_; rotate_left; (intro w hSw); (try dsimp only at hSw); go_simp; (first | with_reducible rfl | skip); simp only [Act.put, List.setIfInBounds_toArray, List.set_cons_zero, List.set_cons_succ])
        first
          | (refine wpAnyH_take (i := 10) (v := undef) ((List.getElem?_toArray).trans rfl) (by kernel_rfl) (by kernel_rfl) (by kernel_rfl) (fun _ _ _ h => h) (Or.inr ⟨by rfl, rfl⟩) (by assumption) ?_; simp only [Act.put, List.setIfInBounds_toArray, List.set_cons_zero, List.set_cons_succ])
          | (refine wpAnyH_take (i := 10) (v := ?_) ((List.getElem?_toArray).trans rfl) (by kernel_rfl) (by kernel_rfl) (by kernel_rfl) (fun _ _ _ h => h) (Or.inl ⟨by rfl, ?_⟩) (by assumption) ?_; rotate_left; (intro w hSw); (try dsimp only at hSw); go_simp; (first | with_reducible rfl | skip); simp only [Act.put, List.setIfInBounds_toArray, List.set_cons_zero, List.set_cons_succ])
        first
          | (refine wpAnyH_take (i := 11) (v := undef) ((List.getElem?_toArray).trans rfl) (by kernel_rfl) (by kernel_rfl) (by kernel_rfl) (fun _ _ _ h => h) (Or.inr ⟨by rfl, rfl⟩) (by assumption) ?_; simp only [Act.put, List.setIfInBounds_toArray, List.set_cons_zero, List.set_cons_succ])
          | (refine wpAnyH_take (i := 11) (v := ?_) ((List.getElem?_toArray).trans rfl) (by kernel_rfl) (by kernel_rfl) (by kernel_rfl) (fun _ _ _ h => h) (Or.inl ⟨by rfl, ?_⟩) (by assumption) ?_; rotate_left; (intro w hSw); (try dsimp only at hSw); go_simp; (first | with_reducible rfl | skip); simp only [Act.put, List.setIfInBounds_toArray, List.set_cons_zero, List.set_cons_succ])
        first
          | (refine wpAnyH_take (i := 12) (v := undef) ((List.getElem?_toArray).trans rfl) (by kernel_rfl) (by kernel_rfl) (by kernel_rfl) (fun _ _ _ h => h) (Or.inr ⟨by rfl, rfl⟩) (by assumption) ?_; simp only [Act.put, List.setIfInBounds_toArray, List.set_cons_zero, List.set_cons_succ])
          | (refine wpAnyH_take (i := 12) (v := ?_) ((List.getElem?_toArray).trans rfl) (by kernel_rfl) (by kernel_rfl) (by kernel_rfl) (fun _ _ _ h => h) (Or.inl ⟨by rfl, ?_⟩) (by assumption) ?_; rotate_left; (intro w hSw); (try dsimp only at hSw); go_simp; (first | with_reducible rfl | skip); simp only [Act.put, List.setIfInBounds_toArray, List.set_cons_zero, List.set_cons_succ])
        first
          | (refine wpAnyH_take (i := 14) (v := undef) ((List.getElem?_toArray).trans rfl) (by kernel_rfl) (by kernel_rfl) (by kernel_rfl) (fun _ _ _ h => h) (Or.inr ⟨by rfl, rfl⟩) (by assumption) ?_; simp only [Act.put, List.setIfInBounds_toArray, List.set_cons_zero, List.set_cons_succ])
          | (refine wpAnyH_take (i := 14) (v := ?_) ((List.getElem?_toArray).trans rfl) (by kernel_rfl) (by kernel_rfl) (by kernel_rfl) (fun _ _ _ h => h) (Or.inl ⟨by rfl, ?_⟩) (by assumption) ?_; rotate_left; (intro w hSw); (try dsimp only at hSw); go_simp; (first | with_reducible rfl | skip); simp only [Act.put, List.setIfInBounds_toArray, List.set_cons_zero, List.set_cons_succ])
        refine wpAnyH_ready (rs := [13]) (by kernel_rfl) (by simp) ?_
        refine AllReadyH.cons ((List.getElem?_toArray).trans rfl) (fun K hK => ?_) AllReadyH.nil
        go_simp
        refine (newBlock_any _ _ _ _ _).mono ?_
        rintro e w2 ⟨rfl, hb2⟩
        have k2 := Rest3.keep hb2 k1.2.2.2
        go_wp2_with fail
        refine hK.out _ _ k2 (fun _ => ?_)
        clear hK K
        try simp only [Act.put, List.setIfInBounds_toArray, List.set_cons_zero, List.set_cons_succ]
        refine wpAnyH_ready (rs := [15]) (by kernel_rfl) (by simp) ?_
        refine AllReadyH.cons ((List.getElem?_toArray).trans rfl) (fun K hK => ?_) AllReadyH.nil
        go_simp
        refine (blockWhole_ok _ _ _ _ _ _ _ _ HX.out).mono ?_
        rintro e w3 ⟨rfl, hb3⟩
        have k3 := Rest3.keep hb3 k2.2.2.2
        go_wp2_with fail
        refine hK.out _ _ k3 (fun _ => ?_)
        clear hK K
        try simp only [Act.put, List.setIfInBounds_toArray, List.set_cons_zero, List.set_cons_succ]
        first
          | (refine wpAnyH_take (i := 16) (v := undef) ((List.getElem?_toArray).trans rfl) (by kernel_rfl) (by kernel_rfl) (by kernel_rfl) (fun _ _ _ h => h) (Or.inr ⟨by rfl, rfl⟩) (by assumption) ?_; simp only [Act.put, List.setIfInBounds_toArray, List.set_cons_zero, List.set_cons_succ])
          | (refine wpAnyH_take (i := 16) (v := ?_) ((List.getElem?_toArray).trans rfl) (by kernel_rfl) (by kernel_rfl) (by kernel_rfl) (fun _ _ _ h => h) (Or.inl ⟨by rfl, ?_⟩) (by assumption) ?_; rotate_left; (intro w hSw); (try dsimp only at hSw); go_simp; (first | with_reducible rfl | skip); simp only [Act.put, List.setIfInBounds_toArray, List.set_cons_zero, List.set_cons_succ])
        first
          | (refine wpAnyH_take (i := 17) (v := undef) ((List.getElem?_toArray).trans rfl) (by kernel_rfl) (by kernel_rfl) (by kernel_rfl) (fun _ _ _ h => h) (Or.inr ⟨by rfl, rfl⟩) (by assumption) ?_; simp only [Act.put, List.setIfInBounds_toArray, List.set_cons_zero, List.set_cons_succ])
          | (refine wpAnyH_take (i := 17) (v := ?_) ((List.getElem?_toArray).trans rfl) (by kernel_rfl) (by kernel_rfl) (by kernel_rfl) (fun _ _ _ h => h) (Or.inl ⟨by rfl, ?_⟩) (by assumption) ?_; rotate_left; (intro w hSw); (try dsimp only at hSw); go_simp; (first | with_reducible rfl | skip); simp only [Act.put, List.setIfInBounds_toArray, List.set_cons_zero, List.set_cons_succ])
        refine wpAnyH_done (by kernel_rfl) ?_ _
        go_wp2_with fail
        go_meet
        case rel => exact ⟨congrArg Value.bool HX.out.symm, k3.2.2.2⟩
    · have HX : Hid (refused (gp || ep) (gw || ew) (gr || er) rp rw rr = true) := hX
      clear hX
      cases gp <;> cases gw <;> cases gr <;> simp only [Bool.false_or, Bool.true_or] at HX
      all_goals
        have k1 := Rest3.keep (Below.refl _ _).drew HR
        refine wp_region_held_drew (S := (fun W => W.cell? ⟨B, 0, none⟩ = some (.bool rp) ∧ W.cell? ⟨B, 1, none⟩ = some (.bool rw) ∧ W.cell? ⟨B, 2, none⟩ = some (.bool rr) ∧ Hid (Rest3 F w B rp rw rr W))) (by kernel_rfl) k1 (fun _ => ?_)
        first
          | (refine wpAnyH_take (i := 0) (v := undef) ((List.getElem?_toArray).trans rfl) (by kernel_rfl) (by kernel_rfl) (by kernel_rfl) (fun _ _ _ h => h) (Or.inr ⟨by rfl, rfl⟩) (by assumption) ?_; simp only [Act.put, List.setIfInBounds_toArray, List.set_cons_zero, List.set_cons_succ])
          | (refine wpAnyH_take (i := 0) (v := ?_) ((List.getElem?_toArray).trans rfl) (by kernel_rfl) (by kernel_rfl) (by kernel_rfl) (fun _ _ _ h => h) (Or.inl ⟨by rfl, ?_⟩) (by assumption) ?_; rotate_left; (intro w hSw); (try dsimp only at hSw); go_simp; (first | with_reducible rfl | skip); simp only [Act.put, List.setIfInBounds_toArray, List.set_cons_zero, List.set_cons_succ])
        first
          | (refine wpAnyH_take (i := 1) (v := undef) ((List.getElem?_toArray).trans rfl) (by kernel_rfl) (by kernel_rfl) (by kernel_rfl) (fun _ _ _ h => h) (Or.inr ⟨by rfl, rfl⟩) (by assumption) ?_; simp only [Act.put, List.setIfInBounds_toArray, List.set_cons_zero, List.set_cons_succ])
          | (refine wpAnyH_take (i := 1) (v := ?_) ((List.getElem?_toArray).trans rfl) (by kernel_rfl) (by kernel_rfl) (by kernel_rfl) (fun _ _ _ h => h) (Or.inl ⟨by rfl, ?_⟩) (by assumption) ?_; rotate_left; (intro w hSw); (try dsimp only at hSw); go_simp; (first | with_reducible rfl | skip); simp only [Act.put, List.setIfInBounds_toArray, List.set_cons_zero, List.set_cons_succ])
        first
          | (refine wpAnyH_take (i := 2) (v := undef) ((List.getElem?_toArray).trans rfl) (by kernel_rfl) (by kernel_rfl) (by kernel_rfl) (fun _ _ _ h => h) (Or.inr ⟨by rfl, rfl⟩) (by assumption) ?_; simp only [Act.put, List.setIfInBounds_toArray, List.set_cons_zero, List.set_cons_succ])
          | (refine wpAnyH_take (i := 2) (v := ?_) ((List.getElem?_toArray).trans rfl) (by kernel_rfl) (by kernel_rfl) (by kernel_rfl) (fun _ _ _ h => h) (Or.inl ⟨by rfl, ?_⟩) (by assumption) ?_; rotate_left; (intro w hSw); (try dsimp only at hSw); go_simp; (first | with_reducible rfl | skip); simp only [Act.put, List.setIfInBounds_toArray, List.set_cons_zero, List.set_cons_succ])
        first
          | (refine wpAnyH_take (i := 3) (v := undef) ((List.getElem?_toArray).trans rfl) (by kernel_rfl) (by kernel_rfl) (by kernel_rfl) (fun _ _ _ h => h) (Or.inr ⟨by rfl, rfl⟩) (by assumption) ?_; simp only [Act.put, List.setIfInBounds_toArray, List.set_cons_zero, List.set_cons_succ])
          | (refine wpAnyH_take (i := 3) (v := ?_) ((List.getElem?_toArray).trans rfl) (by kernel_rfl) (by kernel_rfl) (by kernel_rfl) (fun _ _ _ h => h) (Or.inl ⟨by rfl, ?_⟩) (by assumption) ?_; rotate_left; (intro w hSw); (try dsimp only at hSw); go_simp; (first | with_reducible rfl | skip); simp only [Act.put, List.setIfInBounds_toArray, List.set_cons_zero, List.set_cons_succ])
        first
          | (refine wpAnyH_take (i := 4) (v := undef) ((List.getElem?_toArray).trans rfl) (by kernel_rfl) (by kernel_rfl) (by kernel_rfl) (fun _ _ _ h => h) (Or.inr ⟨by rfl, rfl⟩) (by assumption) ?_; simp only [Act.put, List.setIfInBounds_toArray, List.set_cons_zero, List.set_cons_succ])
          | (refine wpAnyH_take (i := 4) (v := ?_) ((List.getElem?_toArray).trans rfl) (by kernel_rfl) (by kernel_rfl) (by kernel_rfl) (fun _ _ _ h => h) (Or.inl ⟨by rfl, ?_⟩) (by assumption) ?_; rotate_left; (intro w hSw); (try dsimp only at hSw); go_simp; (first | with_reducible rfl | skip); simp only [Act.put, List.setIfInBounds_toArray, List.set_cons_zero, List.set_cons_succ])
        first
          | (refine wpAnyH_take (i := 5) (v := undef) ((List.getElem?_toArray).trans rfl) (by kernel_rfl) (by kernel_rfl) (by kernel_rfl) (fun _ _ _ h => h) (Or.inr ⟨by rfl, rfl⟩) (by assumption) ?_; simp only [Act.put, List.setIfInBounds_toArray, List.set_cons_zero, List.set_cons_succ])
          | (refine wpAnyH_take (i := 5) (v := ?_) ((List.getElem?_toArray).trans rfl) (by kernel_rfl) (by kernel_rfl) (by kernel_rfl) (fun _ _ _ h => h) (Or.inl ⟨by rfl, ?_⟩) (by assumption) ?_; rotate_left; (intro w hSw); (try dsimp only at hSw); go_simp; (first | with_reducible rfl | skip); simp only [Act.put, List.setIfInBounds_toArray, List.set_cons_zero, List.set_cons_succ])
        first
          | (refine wpAnyH_take (i := 6) (v := undef) ((List.getElem?_toArray).trans rfl) (by kernel_rfl) (by kernel_rfl) (by kernel_rfl) (fun _ _ _ h => h) (Or.inr ⟨by rfl, rfl⟩) (by assumption) ?_; simp only [Act.put, List.setIfInBounds_toArray, List.set_cons_zero, List.set_cons_succ])
          | (refine wpAnyH_take (i := 6) (v := ?_) ((List.getElem?_toArray).trans rfl) (by kernel_rfl) (by kernel_rfl) (by kernel_rfl) (fun _ _ _ h => h) (Or.inl ⟨by rfl, ?_⟩) (by assumption) ?_; rotate_left; (intro w hSw); (try dsimp only at hSw); go_simp; (first | with_reducible rfl | skip); simp only [Act.put, List.setIfInBounds_toArray, List.set_cons_zero, List.set_cons_succ])
        first
          | (refine wpAnyH_take (i := 7) (v := undef) ((List.getElem?_toArray).trans rfl) (by kernel_rfl) (by kernel_rfl) (by kernel_rfl) (fun _ _ _ h => h) (Or.inr ⟨by rfl, rfl⟩) (by assumption) ?_; simp only [Act.put, List.setIfInBounds_toArray, List.set_cons_zero, List.set_cons_succ])
          | (refine wpAnyH_take (i := 7) (v := ?_) ((List.getElem?_toArray).trans rfl) (by kernel_rfl) (by kernel_rfl) (by kernel_rfl) (fun _ _ _ h => h) (Or.inl ⟨by rfl, ?_⟩) (by assumption) ?_; rotate_left; (intro w hSw); (try dsimp only at hSw); go_simp; (first | with_reducible rfl | skip); simp only [Act.put, List.setIfInBounds_toArray, List.set_cons_zero, List.set_cons_succ])
        first
          | (refine wpAnyH_take (i := 8) (v := undef) ((List.getElem?_toArray).trans rfl) (by kernel_rfl) (by kernel_rfl) (by kernel_rfl) (fun _ _ _ h => h) (Or.inr ⟨by rfl, rfl⟩) (by assumption) ?_; simp only [Act.put, List.setIfInBounds_toArray, List.set_cons_zero, List.set_cons_succ])
          | (refine wpAnyH_take (i := 8) (v := ?_) ((List.getElem?_toArray).trans rfl) (by kernel_rfl) (by kernel_rfl) (by kernel_rfl) (fun _ _ _ h => h) (Or.inl ⟨by rfl, ?_⟩) (by assumption) ?_; rotate_left; (intro w hSw); (try dsimp only at hSw); go_simp; (first | with_reducible rfl | skip); simp only [Act.put, List.setIfInBounds_toArray, List.set_cons_zero, List.set_cons_succ])
        first
          | (refine wpAnyH_take (i := 9) (v := undef) ((List.getElem?_toArray).trans rfl) (by kernel_rfl) (by kernel_rfl) (by kernel_rfl) (fun _ _ _ h => h) (Or.inr ⟨by rfl, rfl⟩) (by assumption) ?_; simp only [Act.put, List.setIfInBounds_toArray, List.set_cons_zero, List.set_cons_succ])
          | (refine wpAnyH_take (i := 9) (v := ?_) ((List.getElem?_toArray).trans rfl) (by kernel_rfl) (by kernel_rfl) (by kernel_rfl) (fun _ _ _ h => h) (Or.inl ⟨by rfl, ?_⟩) (by assumption) ?_; rotate_left; (intro w hSw); (try dsimp only at hSw); go_simp; (first | with_reducible rfl | skip); simp only [Act.put, List.setIfInBounds_toArray, List.set_cons_zero, List.set_cons_succ])
        first
          | (refine wpAnyH_take (i := 10) (v := undef) ((List.getElem?_toArray).trans rfl) (by kernel_rfl) (by kernel_rfl) (by kernel_rfl) (fun _ _ _ h => h) (Or.inr ⟨by rfl, rfl⟩) (by assumption) ?_; simp only [Act.put, List.setIfInBounds_toArray, List.set_cons_zero, List.set_cons_succ])
          | (refine wpAnyH_take (i := 10) (v := ?_) ((List.getElem?_toArray).trans rfl) (by kernel_rfl) (by kernel_rfl) (by kernel_rfl) (fun _ _ _ h => h) (Or.inl ⟨by rfl, ?_⟩) (by assumption) ?_; rotate_left; (intro w hSw); (try dsimp only at hSw); go_simp; (first | with_reducible rfl | skip); simp only [Act.put, List.setIfInBounds_toArray, List.set_cons_zero, List.set_cons_succ])
        first
          | (refine wpAnyH_take (i := 11) (v := undef) ((List.getElem?_toArray).trans rfl) (by kernel_rfl) (by kernel_rfl) (by kernel_rfl) (fun _ _ _ h => h) (Or.inr ⟨by rfl, rfl⟩) (by assumption) ?_; simp only [Act.put, List.setIfInBounds_toArray, List.set_cons_zero, List.set_cons_succ])
          | (refine wpAnyH_take (i := 11) (v := ?_) ((List.getElem?_toArray).trans rfl) (by kernel_rfl) (by kernel_rfl) (by kernel_rfl) (fun _ _ _ h => h) (Or.inl ⟨by rfl, ?_⟩) (by assumption) ?_; rotate_left; (intro w hSw); (try dsimp only at hSw); go_simp; (first | with_reducible rfl | skip); simp only [Act.put, List.setIfInBounds_toArray, List.set_cons_zero, List.set_cons_succ])
        first
          | (refine wpAnyH_take (i := 12) (v := undef) ((List.getElem?_toArray).trans rfl) (by kernel_rfl) (by kernel_rfl) (by kernel_rfl) (fun _ _ _ h => h) (Or.inr ⟨by rfl, rfl⟩) (by assumption) ?_; simp only [Act.put, List.setIfInBounds_toArray, List.set_cons_zero, List.set_cons_succ])
          | (refine wpAnyH_take (i := 12) (v := ?_) ((List.getElem?_toArray).trans rfl) (by kernel_rfl) (by kernel_rfl) (by kernel_rfl) (fun _ _ _ h => h) (Or.inl ⟨by rfl, ?_⟩) (by assumption) ?_; rotate_left; (intro w hSw); (try dsimp only at hSw); go_simp; (first | with_reducible rfl | skip); simp only [Act.put, List.setIfInBounds_toArray, List.set_cons_zero, List.set_cons_succ])
        first
          | (refine wpAnyH_take (i := 14) (v := undef) ((List.getElem?_toArray).trans rfl) (by kernel_rfl) (by kernel_rfl) (by kernel_rfl) (fun _ _ _ h => h) (Or.inr ⟨by rfl, rfl⟩) (by assumption) ?_; simp only [Act.put, List.setIfInBounds_toArray, List.set_cons_zero, List.set_cons_succ])
          | (refine wpAnyH_take (i := 14) (v := ?_) ((List.getElem?_toArray).trans rfl) (by kernel_rfl) (by kernel_rfl) (by kernel_rfl) (fun _ _ _ h => h) (Or.inl ⟨by rfl, ?_⟩) (by assumption) ?_; rotate_left; (intro w hSw); (try dsimp only at hSw); go_simp; (first | with_reducible rfl | skip); simp only [Act.put, List.setIfInBounds_toArray, List.set_cons_zero, List.set_cons_succ])
        refine wpAnyH_ready (rs := [13]) (by kernel_rfl) (by simp) ?_
        refine AllReadyH.cons ((List.getElem?_toArray).trans rfl) (fun K hK => ?_) AllReadyH.nil
        go_simp
        refine (newBlock_any _ _ _ _ _).mono ?_
        rintro e w2 ⟨rfl, hb2⟩
        have k2 := Rest3.keep hb2 k1.2.2.2
        go_wp2_with fail
        refine hK.out _ _ k2 (fun _ => ?_)
        clear hK K
        try simp only [Act.put, List.setIfInBounds_toArray, List.set_cons_zero, List.set_cons_succ]
        refine wpAnyH_ready (rs := [15]) (by kernel_rfl) (by simp) ?_
        refine AllReadyH.cons ((List.getElem?_toArray).trans rfl) (fun K hK => ?_) AllReadyH.nil
        go_simp
        refine (blockWhole_no F _ _ _ _ _ _ _ _ (Rest3.ans k2.2.2.2) HX.out).mono ?_
        rintro e w3 ⟨x, rfl, hb3⟩
        have k3 := Rest3.keep hb3 k2.2.2.2
        go_wp2_with fail
        refine hK.out _ _ k3 (fun _ => ?_)
        clear hK K
        try simp only [Act.put, List.setIfInBounds_toArray, List.set_cons_zero, List.set_cons_succ]
        first
          | (refine wpAnyH_take (i := 16) (v := undef) ((List.getElem?_toArray).trans rfl) (by kernel_rfl) (by kernel_rfl) (by kernel_rfl) (fun _ _ _ h => h) (Or.inr ⟨by rfl, rfl⟩) (by assumption) ?_; simp only [Act.put, List.setIfInBounds_toArray, List.set_cons_zero, List.set_cons_succ])
          | (refine wpAnyH_take (i := 16) (v := ?_) ((List.getElem?_toArray).trans rfl) (by kernel_rfl) (by kernel_rfl) (by kernel_rfl) (fun _ _ _ h => h) (Or.inl ⟨by rfl, ?_⟩) (by assumption) ?_; rotate_left; (intro w hSw); (try dsimp only at hSw); go_simp; (first | with_reducible rfl | skip); simp only [Act.put, List.setIfInBounds_toArray, List.set_cons_zero, List.set_cons_succ])
        first
          | (refine wpAnyH_take (i := 17) (v := undef) ((List.getElem?_toArray).trans rfl) (by kernel_rfl) (by kernel_rfl) (by kernel_rfl) (fun _ _ _ h => h) (Or.inr ⟨by rfl, rfl⟩) (by assumption) ?_; simp only [Act.put, List.setIfInBounds_toArray, List.set_cons_zero, List.set_cons_succ])
          | (refine wpAnyH_take (i := 17) (v := ?_) ((List.getElem?_toArray).trans rfl) (by kernel_rfl) (by kernel_rfl) (by kernel_rfl) (fun _ _ _ h => h) (Or.inl ⟨by rfl, ?_⟩) (by assumption) ?_; rotate_left; (intro w hSw); (try dsimp only at hSw); go_simp; (first | with_reducible rfl | skip); simp only [Act.put, List.setIfInBounds_toArray, List.set_cons_zero, List.set_cons_succ])
        refine wpAnyH_done (by kernel_rfl) ?_ _
        go_wp2_with fail
        go_meet
        case rel => exact ⟨congrArg Value.bool HX.out.symm, k3.2.2.2⟩
  case rest =>
  obtain ⟨rfl, H1⟩ := hcut
  go_upto_region 3 with fail
  go_cut [25] (fun t wx => t = .bool (refused gp gw gr rp rw rr) ∧ Hid (Rest3 F w B rp rw rr wx))
  case first =>
    cases hX : refused gp gw gr rp rw rr
    · have HX : Hid (refused gp gw gr rp rw rr = false) := hX
      clear hX
      have k1 := Rest3.keep (Below.refl _ _).drew H1
      refine wp_region_held_drew (S := (fun W => W.cell? ⟨B, 0, none⟩ = some (.bool rp) ∧ W.cell? ⟨B, 1, none⟩ = some (.bool rw) ∧ W.cell? ⟨B, 2, none⟩ = some (.bool rr) ∧ Hid (Rest3 F w B rp rw rr W))) (by kernel_rfl) k1 (fun _ => ?_)
      first
        | (refine wpAnyH_take (i := 0) (v := undef) ((List.getElem?_toArray).trans rfl) (by kernel_rfl) (by kernel_rfl) (by kernel_rfl) (fun _ _ _ h => h) (Or.inr ⟨by rfl, rfl⟩) (by assumption) ?_; simp only [Act.put, List.setIfInBounds_toArray, List.set_cons_zero, List.set_cons_succ])
        | (refine wpAnyH_take (i := 0) (v := ?_) ((List.getElem?_toArray).trans rfl) (by kernel_rfl) (by kernel_rfl) (by kernel_rfl) (fun _ _ _ h => h) (Or.inl ⟨by rfl, ?_⟩) (by assumption) ?_; rotate_left; (intro w hSw); (try dsimp only at hSw); go_simp; (first | with_reducible rfl | skip); simp only [Act.put, List.setIfInBounds_toArray, List.set_cons_zero, List.set_cons_succ])
      first
        | (refine wpAnyH_take (i := 1) (v := undef) ((List.getElem?_toArray).trans rfl) (by kernel_rfl) (by kernel_rfl) (by kernel_rfl) (fun _ _ _ h => h) (Or.inr ⟨by rfl, rfl⟩) (by assumption) ?_; simp only [Act.put, List.setIfInBounds_toArray, List.set_cons_zero, List.set_cons_succ])
        | (refine wpAnyH_take (i := 1) (v := ?_) ((List.getElem?_toArray).trans rfl) (by kernel_rfl) (by kernel_rfl) (by kernel_rfl) (fun _ _ _ h => h) (Or.inl ⟨by rfl, ?_⟩) (by assumption) ?_; rotate_left; (intro w hSw); (try dsimp only at hSw); go_simp; (first | with_reducible rfl | skip); simp only [Act.put, List.setIfInBounds_toArray, List.set_cons_zero, List.set_cons_succ])
      first
        | (refine wpAnyH_take (i := 2) (v := undef) ((List.getElem?_toArray).trans rfl) (by kernel_rfl) (by kernel_rfl) (by kernel_rfl) (fun _ _ _ h => h) (Or.inr ⟨by rfl, rfl⟩) (by assumption) ?_; simp only [Act.put, List.setIfInBounds_toArray, List.set_cons_zero, List.set_cons_succ])
        | (refine wpAnyH_take (i := 2) (v := ?_) ((List.getElem?_toArray).trans rfl) (by kernel_rfl) (by kernel_rfl) (by kernel_rfl) (fun _ _ _ h => h) (Or.inl ⟨by rfl, ?_⟩) (by assumption) ?_; rotate_left; (intro w hSw); (try dsimp only at hSw); go_simp; (first | with_reducible rfl | skip); simp only [Act.put, List.setIfInBounds_toArray, List.set_cons_zero, List.set_cons_succ])
      first
        | (refine wpAnyH_take (i := 3) (v := undef) ((List.getElem?_toArray).trans rfl) (by kernel_rfl) (by kernel_rfl) (by kernel_rfl) (fun _ _ _ h => h) (Or.inr ⟨by rfl, rfl⟩) (by assumption) ?_; simp only [Act.put, List.setIfInBounds_toArray, List.set_cons_zero, List.set_cons_succ])
        | (refine wpAnyH_take (i := 3) (v := ?_) ((List.getElem?_toArray).trans rfl) (by kernel_rfl) (by kernel_rfl) (by kernel_rfl) (fun _ _ _ h => h) (Or.inl ⟨by rfl, ?_⟩) (by assumption) ?_; rotate_left; (intro w hSw); (try dsimp only at hSw); go_simp; (first | with_reducible rfl | skip); simp only [Act.put, List.setIfInBounds_toArray, List.set_cons_zero, List.set_cons_succ])
      first
        | (refine wpAnyH_take (i := 5) (v := undef) ((List.getElem?_toArray).trans rfl) (by kernel_rfl) (by kernel_rfl) (by kernel_rfl) (fun _ _ _ h => h) (Or.inr ⟨by rfl, rfl⟩) (by assumption) ?_; simp only [Act.put, List.setIfInBounds_toArray, List.set_cons_zero, List.set_cons_succ])
        | (refine wpAnyH_take (i := 5) (v := ?_) ((List.getElem?_toArray).trans rfl) (by kernel_rfl) (by kernel_rfl) (by kernel_rfl) (fun _ _ _ h => h) (Or.inl ⟨by rfl, ?_⟩) (by assumption) ?_; rotate_left; (intro w hSw); (try dsimp only at hSw); go_simp; (first | with_reducible rfl | skip); simp only [Act.put, List.setIfInBounds_toArray, List.set_cons_zero, List.set_cons_succ])
      refine wpAnyH_ready (rs := [4]) (by kernel_rfl) (by simp) ?_
      refine AllReadyH.cons ((List.getElem?_toArray).trans rfl) (fun K hK => ?_) AllReadyH.nil
      go_simp
      refine (newBlock_any _ _ _ _ _).mono ?_
      rintro e w2 ⟨rfl, hb2⟩
      have k2 := Rest3.keep hb2 k1.2.2.2
      go_wp2_with fail
      refine hK.out _ _ k2 (fun _ => ?_)
      clear hK K
      try simp only [Act.put, List.setIfInBounds_toArray, List.set_cons_zero, List.set_cons_succ]
      refine wpAnyH_ready (rs := [6]) (by kernel_rfl) (by simp) ?_
      refine AllReadyH.cons ((List.getElem?_toArray).trans rfl) (fun K hK => ?_) AllReadyH.nil
      go_simp
      refine (blockWhole_ok _ _ _ _ _ _ _ _ HX.out).mono ?_
      rintro e w3 ⟨rfl, hb3⟩
      have k3 := Rest3.keep hb3 k2.2.2.2
      go_wp2_with fail
      refine hK.out _ _ k3 (fun _ => ?_)
      clear hK K
      try simp only [Act.put, List.setIfInBounds_toArray, List.set_cons_zero, List.set_cons_succ]
      first
        | (refine wpAnyH_take (i := 7) (v := undef) ((List.getElem?_toArray).trans rfl) (by kernel_rfl) (by kernel_rfl) (by kernel_rfl) (fun _ _ _ h => h) (Or.inr ⟨by rfl, rfl⟩) (by assumption) ?_; simp only [Act.put, List.setIfInBounds_toArray, List.set_cons_zero, List.set_cons_succ])
        | (refine wpAnyH_take (i := 7) (v := ?_) ((List.getElem?_toArray).trans rfl) (by kernel_rfl) (by kernel_rfl) (by kernel_rfl) (fun _ _ _ h => h) (Or.inl ⟨by rfl, ?_⟩) (by assumption) ?_; rotate_left; (intro w hSw); (try dsimp only at hSw); go_simp; (first | with_reducible rfl | skip); simp only [Act.put, List.setIfInBounds_toArray, List.set_cons_zero, List.set_cons_succ])
      first
        | (refine wpAnyH_take (i := 8) (v := undef) ((List.getElem?_toArray).trans rfl) (by kernel_rfl) (by kernel_rfl) (by kernel_rfl) (fun _ _ _ h => h) (Or.inr ⟨by rfl, rfl⟩) (by assumption) ?_; simp only [Act.put, List.setIfInBounds_toArray, List.set_cons_zero, List.set_cons_succ])
        | (refine wpAnyH_take (i := 8) (v := ?_) ((List.getElem?_toArray).trans rfl) (by kernel_rfl) (by kernel_rfl) (by kernel_rfl) (fun _ _ _ h => h) (Or.inl ⟨by rfl, ?_⟩) (by assumption) ?_; rotate_left; (intro w hSw); (try dsimp only at hSw); go_simp; (first | with_reducible rfl | skip); simp only [Act.put, List.setIfInBounds_toArray, List.set_cons_zero, List.set_cons_succ])
      refine wpAnyH_done (by kernel_rfl) ?_ _
      go_wp2_with fail
      go_meet
      case rel => exact ⟨congrArg Value.bool HX.out.symm, k3.2.2.2⟩
    · have HX : Hid (refused gp gw gr rp rw rr = true) := hX
      clear hX
      have k1 := Rest3.keep (Below.refl _ _).drew H1
      refine wp_region_held_drew (S := (fun W => W.cell? ⟨B, 0, none⟩ = some (.bool rp) ∧ W.cell? ⟨B, 1, none⟩ = some (.bool rw) ∧ W.cell? ⟨B, 2, none⟩ = some (.bool rr) ∧ Hid (Rest3 F w B rp rw rr W))) (by kernel_rfl) k1 (fun _ => ?_)
      first
        | (refine wpAnyH_take (i := 0) (v := undef) ((List.getElem?_toArray).trans rfl) (by kernel_rfl) (by kernel_rfl) (by kernel_rfl) (fun _ _ _ h => h) (Or.inr ⟨by rfl, rfl⟩) (by assumption) ?_; simp only [Act.put, List.setIfInBounds_toArray, List.set_cons_zero, List.set_cons_succ])
        | (refine wpAnyH_take (i := 0) (v := ?_) ((List.getElem?_toArray).trans rfl) (by kernel_rfl) (by kernel_rfl) (by kernel_rfl) (fun _ _ _ h => h) (Or.inl ⟨by rfl, ?_⟩) (by assumption) ?_; rotate_left; (intro w hSw); (try dsimp only at hSw); go_simp; (first | with_reducible rfl | skip); simp only [Act.put, List.setIfInBounds_toArray, List.set_cons_zero, List.set_cons_succ])
      first
        | (refine wpAnyH_take (i := 1) (v := undef) ((List.getElem?_toArray).trans rfl) (by kernel_rfl) (by kernel_rfl) (by kernel_rfl) (fun _ _ _ h => h) (Or.inr ⟨by rfl, rfl⟩) (by assumption) ?_; simp only [Act.put, List.setIfInBounds_toArray, List.set_cons_zero, List.set_cons_succ])
        | (refine wpAnyH_take (i := 1) (v := ?_) ((List.getElem?_toArray).trans rfl) (by kernel_rfl) (by kernel_rfl) (by kernel_rfl) (fun _ _ _ h => h) (Or.inl ⟨by rfl, ?_⟩) (by assumption) ?_; rotate_left; (intro w hSw); (try dsimp only at hSw); go_simp; (first | with_reducible rfl | skip); simp only [Act.put, List.setIfInBounds_toArray, List.set_cons_zero, List.set_cons_succ])
      first
        | (refine wpAnyH_take (i := 2) (v := undef) ((List.getElem?_toArray).trans rfl) (by kernel_rfl) (by kernel_rfl) (by kernel_rfl) (fun _ _ _ h => h) (Or.inr ⟨by rfl, rfl⟩) (by assumption) ?_; simp only [Act.put, List.setIfInBounds_toArray, List.set_cons_zero, List.set_cons_succ])
        | (refine wpAnyH_take (i := 2) (v := ?_) ((List.getElem?_toArray).trans rfl) (by kernel_rfl) (by kernel_rfl) (by kernel_rfl) (fun _ _ _ h => h) (Or.inl ⟨by rfl, ?_⟩) (by assumption) ?_; rotate_left; (intro w hSw); (try dsimp only at hSw); go_simp; (first | with_reducible rfl | skip); simp only [Act.put, List.setIfInBounds_toArray, List.set_cons_zero, List.set_cons_succ])
      first
        | (refine wpAnyH_take (i := 3) (v := undef) ((List.getElem?_toArray).trans rfl) (by kernel_rfl) (by kernel_rfl) (by kernel_rfl) (fun _ _ _ h => h) (Or.inr ⟨by rfl, rfl⟩) (by assumption) ?_; simp only [Act.put, List.setIfInBounds_toArray, List.set_cons_zero, List.set_cons_succ])
        | (refine wpAnyH_take (i := 3) (v := ?_) ((List.getElem?_toArray).trans rfl) (by kernel_rfl) (by kernel_rfl) (by kernel_rfl) (fun _ _ _ h => h) (Or.inl ⟨by rfl, ?_⟩) (by assumption) ?_; rotate_left; (intro w hSw); (try dsimp only at hSw); go_simp; (first | with_reducible rfl | skip); simp only [Act.put, List.setIfInBounds_toArray, List.set_cons_zero, List.set_cons_succ])
      first
        | (refine wpAnyH_take (i := 5) (v := undef) ((List.getElem?_toArray).trans rfl) (by kernel_rfl) (by kernel_rfl) (by kernel_rfl) (fun _ _ _ h => h) (Or.inr ⟨by rfl, rfl⟩) (by assumption) ?_; simp only [Act.put, List.setIfInBounds_toArray, List.set_cons_zero, List.set_cons_succ])
        | (refine wpAnyH_take (i := 5) (v := ?_) ((List.getElem?_toArray).trans rfl) (by kernel_rfl) (by kernel_rfl) (by kernel_rfl) (fun _ _ _ h => h) (Or.inl ⟨by rfl, ?_⟩) (by assumption) ?_; rotate_left; (intro w hSw); (try dsimp only at hSw); go_simp; (first | with_reducible rfl | skip); simp only [Act.put, List.setIfInBounds_toArray, List.set_cons_zero, List.set_cons_succ])
      refine wpAnyH_ready (rs := [4]) (by kernel_rfl) (by simp) ?_
      refine AllReadyH.cons ((List.getElem?_toArray).trans rfl) (fun K hK => ?_) AllReadyH.nil
      go_simp
      refine (newBlock_any _ _ _ _ _).mono ?_
      rintro e w2 ⟨rfl, hb2⟩
      have k2 := Rest3.keep hb2 k1.2.2.2
      go_wp2_with fail
      refine hK.out _ _ k2 (fun _ => ?_)
      clear hK K
      try simp only [Act.put, List.setIfInBounds_toArray, List.set_cons_zero, List.set_cons_succ]
      refine wpAnyH_ready (rs := [6]) (by kernel_rfl) (by simp) ?_
      refine AllReadyH.cons ((List.getElem?_toArray).trans rfl) (fun K hK => ?_) AllReadyH.nil
      go_simp
      refine (blockWhole_no F _ _ _ _ _ _ _ _ (Rest3.ans k2.2.2.2) HX.out).mono ?_
      rintro e w3 ⟨x, rfl, hb3⟩
      have k3 := Rest3.keep hb3 k2.2.2.2
      go_wp2_with fail
      refine hK.out _ _ k3 (fun _ => ?_)
      clear hK K
      try simp only [Act.put, List.setIfInBounds_toArray, List.set_cons_zero, List.set_cons_succ]
      first
        | (refine wpAnyH_take (i := 7) (v := undef) ((List.getElem?_toArray).trans rfl) (by kernel_rfl) (by kernel_rfl) (by kernel_rfl) (fun _ _ _ h => h) (Or.inr ⟨by rfl, rfl⟩) (by assumption) ?_; simp only [Act.put, List.setIfInBounds_toArray, List.set_cons_zero, List.set_cons_succ])
        | (refine wpAnyH_take (i := 7) (v := ?_) ((List.getElem?_toArray).trans rfl) (by kernel_rfl) (by kernel_rfl) (by kernel_rfl) (fun _ _ _ h => h) (Or.inl ⟨by rfl, ?_⟩) (by assumption) ?_; rotate_left; (intro w hSw); (try dsimp only at hSw); go_simp; (first | with_reducible rfl | skip); simp only [Act.put, List.setIfInBounds_toArray, List.set_cons_zero, List.set_cons_succ])
      first
        | (refine wpAnyH_take (i := 8) (v := undef) ((List.getElem?_toArray).trans rfl) (by kernel_rfl) (by kernel_rfl) (by kernel_rfl) (fun _ _ _ h => h) (Or.inr ⟨by rfl, rfl⟩) (by assumption) ?_; simp only [Act.put, List.setIfInBounds_toArray, List.set_cons_zero, List.set_cons_succ])
        | (refine wpAnyH_take (i := 8) (v := ?_) ((List.getElem?_toArray).trans rfl) (by kernel_rfl) (by kernel_rfl) (by kernel_rfl) (fun _ _ _ h => h) (Or.inl ⟨by rfl, ?_⟩) (by assumption) ?_; rotate_left; (intro w hSw); (try dsimp only at hSw); go_simp; (first | with_reducible rfl | skip); simp only [Act.put, List.setIfInBounds_toArray, List.set_cons_zero, List.set_cons_succ])
      refine wpAnyH_done (by kernel_rfl) ?_ _
      go_wp2_with fail
      go_meet
      case rel => exact ⟨congrArg Value.bool HX.out.symm, k3.2.2.2⟩
  case rest =>
  obtain ⟨rfl, H2⟩ := hcut
  go_upto_region 4 with fail
  go_cut [26] (fun t wx => t = .bool (refused false false false rp rw rr) ∧ Hid (Rest3 F w B rp rw rr wx))
  case first =>
    cases hX : refused false false false rp rw rr
    · have HX : Hid (refused false false false rp rw rr = false) := hX
      clear hX
      have k1 := Rest3.keep (Below.refl _ _).drew H2
      refine wp_region_held_drew (S := (fun W => W.cell? ⟨B, 0, none⟩ = some (.bool rp) ∧ W.cell? ⟨B, 1, none⟩ = some (.bool rw) ∧ W.cell? ⟨B, 2, none⟩ = some (.bool rr) ∧ Hid (Rest3 F w B rp rw rr W))) (by kernel_rfl) k1 (fun _ => ?_)
      first
        | (refine wpAnyH_take (i := 0) (v := undef) ((List.getElem?_toArray).trans rfl) (by kernel_rfl) (by kernel_rfl) (by kernel_rfl) (fun _ _ _ h => h) (Or.inr ⟨by rfl, rfl⟩) (by assumption) ?_; simp only [Act.put, List.setIfInBounds_toArray, List.set_cons_zero, List.set_cons_succ])
        | (refine wpAnyH_take (i := 0) (v := ?_) ((List.getElem?_toArray).trans rfl) (by kernel_rfl) (by kernel_rfl) (by kernel_rfl) (fun _ _ _ h => h) (Or.inl ⟨by rfl, ?_⟩) (by assumption) ?_; rotate_left; (intro w hSw); (try dsimp only at hSw); go_simp; (first | with_reducible rfl | skip); simp only [Act.put, List.setIfInBounds_toArray, List.set_cons_zero, List.set_cons_succ])
      first
        | (refine wpAnyH_take (i := 2) (v := undef) ((List.getElem?_toArray).trans rfl) (by kernel_rfl) (by kernel_rfl) (by kernel_rfl) (fun _ _ _ h => h) (Or.inr ⟨by rfl, rfl⟩) (by assumption) ?_; simp only [Act.put, List.setIfInBounds_toArray, List.set_cons_zero, List.set_cons_succ])
        | (refine wpAnyH_take (i := 2) (v := ?_) ((List.getElem?_toArray).trans rfl) (by kernel_rfl) (by kernel_rfl) (by kernel_rfl) (fun _ _ _ h => h) (Or.inl ⟨by rfl, ?_⟩) (by assumption) ?_; rotate_left; (intro w hSw); (try dsimp only at hSw); go_simp; (first | with_reducible rfl | skip); simp only [Act.put, List.setIfInBounds_toArray, List.set_cons_zero, List.set_cons_succ])
      refine wpAnyH_ready (rs := [1]) (by kernel_rfl) (by simp) ?_
      refine AllReadyH.cons ((List.getElem?_toArray).trans rfl) (fun K hK => ?_) AllReadyH.nil
      go_simp
      refine (newBlock_any _ _ _ _ _).mono ?_
      rintro e w2 ⟨rfl, hb2⟩
      have k2 := Rest3.keep hb2 k1.2.2.2
      go_wp2_with fail
      refine hK.out _ _ k2 (fun _ => ?_)
      clear hK K
      try simp only [Act.put, List.setIfInBounds_toArray, List.set_cons_zero, List.set_cons_succ]
      refine wpAnyH_ready (rs := [3]) (by kernel_rfl) (by simp) ?_
      refine AllReadyH.cons ((List.getElem?_toArray).trans rfl) (fun K hK => ?_) AllReadyH.nil
      go_simp
      refine (blockWhole_ok _ _ _ _ _ _ _ _ HX.out).mono ?_
      rintro e w3 ⟨rfl, hb3⟩
      have k3 := Rest3.keep hb3 k2.2.2.2
      go_wp2_with fail
      refine hK.out _ _ k3 (fun _ => ?_)
      clear hK K
      try simp only [Act.put, List.setIfInBounds_toArray, List.set_cons_zero, List.set_cons_succ]
      first
        | (refine wpAnyH_take (i := 4) (v := undef) ((List.getElem?_toArray).trans rfl) (by kernel_rfl) (by kernel_rfl) (by kernel_rfl) (fun _ _ _ h => h) (Or.inr ⟨by rfl, rfl⟩) (by assumption) ?_; simp only [Act.put, List.setIfInBounds_toArray, List.set_cons_zero, List.set_cons_succ])
        | (refine wpAnyH_take (i := 4) (v := ?_) ((List.getElem?_toArray).trans rfl) (by kernel_rfl) (by kernel_rfl) (by kernel_rfl) (fun _ _ _ h => h) (Or.inl ⟨by rfl, ?_⟩) (by assumption) ?_; rotate_left; (intro w hSw); (try dsimp only at hSw); go_simp; (first | with_reducible rfl | skip); simp only [Act.put, List.setIfInBounds_toArray, List.set_cons_zero, List.set_cons_succ])
      first
        | (refine wpAnyH_take (i := 5) (v := undef) ((List.getElem?_toArray).trans rfl) (by kernel_rfl) (by kernel_rfl) (by kernel_rfl) (fun _ _ _ h => h) (Or.inr ⟨by rfl, rfl⟩) (by assumption) ?_; simp only [Act.put, List.setIfInBounds_toArray, List.set_cons_zero, List.set_cons_succ])
        | (refine wpAnyH_take (i := 5) (v := ?_) ((List.getElem?_toArray).trans rfl) (by kernel_rfl) (by kernel_rfl) (by kernel_rfl) (fun _ _ _ h => h) (Or.inl ⟨by rfl, ?_⟩) (by assumption) ?_; rotate_left; (intro w hSw); (try dsimp only at hSw); go_simp; (first | with_reducible rfl | skip); simp only [Act.put, List.setIfInBounds_toArray, List.set_cons_zero, List.set_cons_succ])
      refine wpAnyH_done (by kernel_rfl) ?_ _
      go_wp2_with fail
      go_meet
      case rel => exact ⟨congrArg Value.bool HX.out.symm, k3.2.2.2⟩
    · have HX : Hid (refused false false false rp rw rr = true) := hX
      clear hX
      have k1 := Rest3.keep (Below.refl _ _).drew H2
      refine wp_region_held_drew (S := (fun W => W.cell? ⟨B, 0, none⟩ = some (.bool rp) ∧ W.cell? ⟨B, 1, none⟩ = some (.bool rw) ∧ W.cell? ⟨B, 2, none⟩ = some (.bool rr) ∧ Hid (Rest3 F w B rp rw rr W))) (by kernel_rfl) k1 (fun _ => ?_)
      first
        | (refine wpAnyH_take (i := 0) (v := undef) ((List.getElem?_toArray).trans rfl) (by kernel_rfl) (by kernel_rfl) (by kernel_rfl) (fun _ _ _ h => h) (Or.inr ⟨by rfl, rfl⟩) (by assumption) ?_; simp only [Act.put, List.setIfInBounds_toArray, List.set_cons_zero, List.set_cons_succ])
        | (refine wpAnyH_take (i := 0) (v := ?_) ((List.getElem?_toArray).trans rfl) (by kernel_rfl) (by kernel_rfl) (by kernel_rfl) (fun _ _ _ h => h) (Or.inl ⟨by rfl, ?_⟩) (by assumption) ?_; rotate_left; (intro w hSw); (try dsimp only at hSw); go_simp; (first | with_reducible rfl | skip); simp only [Act.put, List.setIfInBounds_toArray, List.set_cons_zero, List.set_cons_succ])
      first
        | (refine wpAnyH_take (i := 2) (v := undef) ((List.getElem?_toArray).trans rfl) (by kernel_rfl) (by kernel_rfl) (by kernel_rfl) (fun _ _ _ h => h) (Or.inr ⟨by rfl, rfl⟩) (by assumption) ?_; simp only [Act.put, List.setIfInBounds_toArray, List.set_cons_zero, List.set_cons_succ])
        | (refine wpAnyH_take (i := 2) (v := ?_) ((List.getElem?_toArray).trans rfl) (by kernel_rfl) (by kernel_rfl) (by kernel_rfl) (fun _ _ _ h => h) (Or.inl ⟨by rfl, ?_⟩) (by assumption) ?_; rotate_left; (intro w hSw); (try dsimp only at hSw); go_simp; (first | with_reducible rfl | skip); simp only [Act.put, List.setIfInBounds_toArray, List.set_cons_zero, List.set_cons_succ])
      refine wpAnyH_ready (rs := [1]) (by kernel_rfl) (by simp) ?_
      refine AllReadyH.cons ((List.getElem?_toArray).trans rfl) (fun K hK => ?_) AllReadyH.nil
      go_simp
      refine (newBlock_any _ _ _ _ _).mono ?_
      rintro e w2 ⟨rfl, hb2⟩
      have k2 := Rest3.keep hb2 k1.2.2.2
      go_wp2_with fail
      refine hK.out _ _ k2 (fun _ => ?_)
      clear hK K
      try simp only [Act.put, List.setIfInBounds_toArray, List.set_cons_zero, List.set_cons_succ]
      refine wpAnyH_ready (rs := [3]) (by kernel_rfl) (by simp) ?_
      refine AllReadyH.cons ((List.getElem?_toArray).trans rfl) (fun K hK => ?_) AllReadyH.nil
      go_simp
      refine (blockWhole_no F _ _ _ _ _ _ _ _ (Rest3.ans k2.2.2.2) HX.out).mono ?_
      rintro e w3 ⟨x, rfl, hb3⟩
      have k3 := Rest3.keep hb3 k2.2.2.2
      go_wp2_with fail
      refine hK.out _ _ k3 (fun _ => ?_)
      clear hK K
      try simp only [Act.put, List.setIfInBounds_toArray, List.set_cons_zero, List.set_cons_succ]
      first
        | (refine wpAnyH_take (i := 4) (v := undef) ((List.getElem?_toArray).trans rfl) (by kernel_rfl) (by kernel_rfl) (by kernel_rfl) (fun _ _ _ h => h) (Or.inr ⟨by rfl, rfl⟩) (by assumption) ?_; simp only [Act.put, List.setIfInBounds_toArray, List.set_cons_zero, List.set_cons_succ])
        | (refine wpAnyH_take (i := 4) (v := ?_) ((List.getElem?_toArray).trans rfl) (by kernel_rfl) (by kernel_rfl) (by kernel_rfl) (fun _ _ _ h => h) (Or.inl ⟨by rfl, ?_⟩) (by assumption) ?_; rotate_left; (intro w hSw); (try dsimp only at hSw); go_simp; (first | with_reducible rfl | skip); simp only [Act.put, List.setIfInBounds_toArray, List.set_cons_zero, List.set_cons_succ])
      first
        | (refine wpAnyH_take (i := 5) (v := undef) ((List.getElem?_toArray).trans rfl) (by kernel_rfl) (by kernel_rfl) (by kernel_rfl) (fun _ _ _ h => h) (Or.inr ⟨by rfl, rfl⟩) (by assumption) ?_; simp only [Act.put, List.setIfInBounds_toArray, List.set_cons_zero, List.set_cons_succ])
        | (refine wpAnyH_take (i := 5) (v := ?_) ((List.getElem?_toArray).trans rfl) (by kernel_rfl) (by kernel_rfl) (by kernel_rfl) (fun _ _ _ h => h) (Or.inl ⟨by rfl, ?_⟩) (by assumption) ?_; rotate_left; (intro w hSw); (try dsimp only at hSw); go_simp; (first | with_reducible rfl | skip); simp only [Act.put, List.setIfInBounds_toArray, List.set_cons_zero, List.set_cons_succ])
      refine wpAnyH_done (by kernel_rfl) ?_ _
      go_wp2_with fail
      go_meet
      case rel => exact ⟨congrArg Value.bool HX.out.symm, k3.2.2.2⟩
  case rest =>
  obtain ⟨rfl, H3⟩ := hcut
  go_upto_region 5 with fail
  go_cut [27] (fun t wx => t = .bool (refused true true true rp rw rr) ∧ Hid (Rest3 F w B rp rw rr wx))
  case first =>
    cases hX : refused true true true rp rw rr
    · have HX : Hid (refused true true true rp rw rr = false) := hX
      clear hX
      have k1 := Rest3.keep (Below.refl _ _).drew H3
      refine wp_region_held_drew (S := (fun W => W.cell? ⟨B, 0, none⟩ = some (.bool rp) ∧ W.cell? ⟨B, 1, none⟩ = some (.bool rw) ∧ W.cell? ⟨B, 2, none⟩ = some (.bool rr) ∧ Hid (Rest3 F w B rp rw rr W))) (by kernel_rfl) k1 (fun _ => ?_)
      first
        | (refine wpAnyH_take (i := 0) (v := undef) ((List.getElem?_toArray).trans rfl) (by kernel_rfl) (by kernel_rfl) (by kernel_rfl) (fun _ _ _ h => h) (Or.inr ⟨by rfl, rfl⟩) (by assumption) ?_; simp only [Act.put, List.setIfInBounds_toArray, List.set_cons_zero, List.set_cons_succ])
        | (refine wpAnyH_take (i := 0) (v := ?_) ((List.getElem?_toArray).trans rfl) (by kernel_rfl) (by kernel_rfl) (by kernel_rfl) (fun _ _ _ h => h) (Or.inl ⟨by rfl, ?_⟩) (by assumption) ?_; rotate_left; (intro w hSw); (try dsimp only at hSw); go_simp; (first | with_reducible rfl | skip); simp only [Act.put, List.setIfInBounds_toArray, List.set_cons_zero, List.set_cons_succ])
      first
        | (refine wpAnyH_take (i := 2) (v := undef) ((List.getElem?_toArray).trans rfl) (by kernel_rfl) (by kernel_rfl) (by kernel_rfl) (fun _ _ _ h => h) (Or.inr ⟨by rfl, rfl⟩) (by assumption) ?_; simp only [Act.put, List.setIfInBounds_toArray, List.set_cons_zero, List.set_cons_succ])
        | (refine wpAnyH_take (i := 2) (v := ?_) ((List.getElem?_toArray).trans rfl) (by kernel_rfl) (by kernel_rfl) (by kernel_rfl) (fun _ _ _ h => h) (Or.inl ⟨by rfl, ?_⟩) (by assumption) ?_; rotate_left; (intro w hSw); (try dsimp only at hSw); go_simp; (first | with_reducible rfl | skip); simp only [Act.put, List.setIfInBounds_toArray, List.set_cons_zero, List.set_cons_succ])
      refine wpAnyH_ready (rs := [1]) (by kernel_rfl) (by simp) ?_
      refine AllReadyH.cons ((List.getElem?_toArray).trans rfl) (fun K hK => ?_) AllReadyH.nil
      go_simp
      refine (newBlock_any _ _ _ _ _).mono ?_
      rintro e w2 ⟨rfl, hb2⟩
      have k2 := Rest3.keep hb2 k1.2.2.2
      go_wp2_with fail
      refine hK.out _ _ k2 (fun _ => ?_)
      clear hK K
      try simp only [Act.put, List.setIfInBounds_toArray, List.set_cons_zero, List.set_cons_succ]
      refine wpAnyH_ready (rs := [3]) (by kernel_rfl) (by simp) ?_
      refine AllReadyH.cons ((List.getElem?_toArray).trans rfl) (fun K hK => ?_) AllReadyH.nil
      go_simp
      refine (blockWhole_ok _ _ _ _ _ _ _ _ HX.out).mono ?_
      rintro e w3 ⟨rfl, hb3⟩
      have k3 := Rest3.keep hb3 k2.2.2.2
      go_wp2_with fail
      refine hK.out _ _ k3 (fun _ => ?_)
      clear hK K
      try simp only [Act.put, List.setIfInBounds_toArray, List.set_cons_zero, List.set_cons_succ]
      first
        | (refine wpAnyH_take (i := 4) (v := undef) ((List.getElem?_toArray).trans rfl) (by kernel_rfl) (by kernel_rfl) (by kernel_rfl) (fun _ _ _ h => h) (Or.inr ⟨by rfl, rfl⟩) (by assumption) ?_; simp only [Act.put, List.setIfInBounds_toArray, List.set_cons_zero, List.set_cons_succ])
        | (refine wpAnyH_take (i := 4) (v := ?_) ((List.getElem?_toArray).trans rfl) (by kernel_rfl) (by kernel_rfl) (by kernel_rfl) (fun _ _ _ h => h) (Or.inl ⟨by rfl, ?_⟩) (by assumption) ?_; rotate_left; (intro w hSw); (try dsimp only at hSw); go_simp; (first | with_reducible rfl | skip); simp only [Act.put, List.setIfInBounds_toArray, List.set_cons_zero, List.set_cons_succ])
      first
        | (refine wpAnyH_take (i := 5) (v := undef) ((List.getElem?_toArray).trans rfl) (by kernel_rfl) (by kernel_rfl) (by kernel_rfl) (fun _ _ _ h => h) (Or.inr ⟨by rfl, rfl⟩) (by assumption) ?_; simp only [Act.put, List.setIfInBounds_toArray, List.set_cons_zero, List.set_cons_succ])
        | (refine wpAnyH_take (i := 5) (v := ?_) ((List.getElem?_toArray).trans rfl) (by kernel_rfl) (by kernel_rfl) (by kernel_rfl) (fun _ _ _ h => h) (Or.inl ⟨by rfl, ?_⟩) (by assumption) ?_; rotate_left; (intro w hSw); (try dsimp only at hSw); go_simp; (first | with_reducible rfl | skip); simp only [Act.put, List.setIfInBounds_toArray, List.set_cons_zero, List.set_cons_succ])
      refine wpAnyH_done (by kernel_rfl) ?_ _
      go_wp2_with fail
      go_meet
      case rel => exact ⟨congrArg Value.bool HX.out.symm, k3.2.2.2⟩
    · have HX : Hid (refused true true true rp rw rr = true) := hX
      clear hX
      have k1 := Rest3.keep (Below.refl _ _).drew H3
      refine wp_region_held_drew (S := (fun W => W.cell? ⟨B, 0, none⟩ = some (.bool rp) ∧ W.cell? ⟨B, 1, none⟩ = some (.bool rw) ∧ W.cell? ⟨B, 2, none⟩ = some (.bool rr) ∧ Hid (Rest3 F w B rp rw rr W))) (by kernel_rfl) k1 (fun _ => ?_)
      first
        | (refine wpAnyH_take (i := 0) (v := undef) ((List.getElem?_toArray).trans rfl) (by kernel_rfl) (by kernel_rfl) (by kernel_rfl) (fun _ _ _ h => h) (Or.inr ⟨by rfl, rfl⟩) (by assumption) ?_; simp only [Act.put, List.setIfInBounds_toArray, List.set_cons_zero, List.set_cons_succ])
        | (refine wpAnyH_take (i := 0) (v := ?_) ((List.getElem?_toArray).trans rfl) (by kernel_rfl) (by kernel_rfl) (by kernel_rfl) (fun _ _ _ h => h) (Or.inl ⟨by rfl, ?_⟩) (by assumption) ?_; rotate_left; (intro w hSw); (try dsimp only at hSw); go_simp; (first | with_reducible rfl | skip); simp only [Act.put, List.setIfInBounds_toArray, List.set_cons_zero, List.set_cons_succ])
      first
        | (refine wpAnyH_take (i := 2) (v := undef) ((List.getElem?_toArray).trans rfl) (by kernel_rfl) (by kernel_rfl) (by kernel_rfl) (fun _ _ _ h => h) (Or.inr ⟨by rfl, rfl⟩) (by assumption) ?_; simp only [Act.put, List.setIfInBounds_toArray, List.set_cons_zero, List.set_cons_succ])
        | (refine wpAnyH_take (i := 2) (v := ?_) ((List.getElem?_toArray).trans rfl) (by kernel_rfl) (by kernel_rfl) (by kernel_rfl) (fun _ _ _ h => h) (Or.inl ⟨by rfl, ?_⟩) (by assumption) ?_; rotate_left; (intro w hSw); (try dsimp only at hSw); go_simp; (first | with_reducible rfl | skip); simp only [Act.put, List.setIfInBounds_toArray, List.set_cons_zero, List.set_cons_succ])
      refine wpAnyH_ready (rs := [1]) (by kernel_rfl) (by simp) ?_
      refine AllReadyH.cons ((List.getElem?_toArray).trans rfl) (fun K hK => ?_) AllReadyH.nil
      go_simp
      refine (newBlock_any _ _ _ _ _).mono ?_
      rintro e w2 ⟨rfl, hb2⟩
      have k2 := Rest3.keep hb2 k1.2.2.2
      go_wp2_with fail
      refine hK.out _ _ k2 (fun _ => ?_)
      clear hK K
      try simp only [Act.put, List.setIfInBounds_toArray, List.set_cons_zero, List.set_cons_succ]
      refine wpAnyH_ready (rs := [3]) (by kernel_rfl) (by simp) ?_
      refine AllReadyH.cons ((List.getElem?_toArray).trans rfl) (fun K hK => ?_) AllReadyH.nil
      go_simp
      refine (blockWhole_no F _ _ _ _ _ _ _ _ (Rest3.ans k2.2.2.2) HX.out).mono ?_
      rintro e w3 ⟨x, rfl, hb3⟩
      have k3 := Rest3.keep hb3 k2.2.2.2
      go_wp2_with fail
      refine hK.out _ _ k3 (fun _ => ?_)
      clear hK K
      try simp only [Act.put, List.setIfInBounds_toArray, List.set_cons_zero, List.set_cons_succ]
      first
        | (refine wpAnyH_take (i := 4) (v := undef) ((List.getElem?_toArray).trans rfl) (by kernel_rfl) (by kernel_rfl) (by kernel_rfl) (fun _ _ _ h => h) (Or.inr ⟨by rfl, rfl⟩) (by assumption) ?_; simp only [Act.put, List.setIfInBounds_toArray, List.set_cons_zero, List.set_cons_succ])
        | (refine wpAnyH_take (i := 4) (v := ?_) ((List.getElem?_toArray).trans rfl) (by kernel_rfl) (by kernel_rfl) (by kernel_rfl) (fun _ _ _ h => h) (Or.inl ⟨by rfl, ?_⟩) (by assumption) ?_; rotate_left; (intro w hSw); (try dsimp only at hSw); go_simp; (first | with_reducible rfl | skip); simp only [Act.put, List.setIfInBounds_toArray, List.set_cons_zero, List.set_cons_succ])
      first
        | (refine wpAnyH_take (i := 5) (v := undef) ((List.getElem?_toArray).trans rfl) (by kernel_rfl) (by kernel_rfl) (by kernel_rfl) (fun _ _ _ h => h) (Or.inr ⟨by rfl, rfl⟩) (by assumption) ?_; simp only [Act.put, List.setIfInBounds_toArray, List.set_cons_zero, List.set_cons_succ])
        | (refine wpAnyH_take (i := 5) (v := ?_) ((List.getElem?_toArray).trans rfl) (by kernel_rfl) (by kernel_rfl) (by kernel_rfl) (fun _ _ _ h => h) (Or.inl ⟨by rfl, ?_⟩) (by assumption) ?_; rotate_left; (intro w hSw); (try dsimp only at hSw); go_simp; (first | with_reducible rfl | skip); simp only [Act.put, List.setIfInBounds_toArray, List.set_cons_zero, List.set_cons_succ])
      refine wpAnyH_done (by kernel_rfl) ?_ _
      go_wp2_with fail
      go_meet
      case rel => exact ⟨congrArg Value.bool HX.out.symm, k3.2.2.2⟩
  case rest =>
  obtain ⟨rfl, H4⟩ := hcut
  have hm := refused_more gp gw gr ep ew er rp rw rr
  rw [refused_bare, refused_full]
  generalize refused (gp || ep) (gw || ew) (gr || er) rp rw rr = X at hm
  generalize refused gp gw gr rp rw rr = Y at hm
  have hb := Rest3.bel H4
  cases X <;> cases Y <;> simp only [reduceCtorEq, imp_false, not_true_eq_false] at hm <;> clear hm <;> cases rp <;> cases rw <;> cases rr <;> (go_wp2_with fail; go_ret; exact ⟨rfl, hb⟩)
end Go.Proofs.Qxb6612597aFmt
