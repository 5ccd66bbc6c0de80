import Derived.Test.Qxb6609258aA
namespace Go.Proofs.Qxb6609258a
open Go.ChangeShapes Go.WideShapes Go.ChangeAt Go.RowKit
set_option linter.unusedVariables false

/-- The nodes of the index: node i's highest slot is that of span i. -/
def MRow (w : World) (gM n : Nat) (h : Nat → Int) : Prop := gM < w.heap.size ∧ ∀ i, i < n → w.cell? ⟨gM, i * 8 + 1, none⟩ = some (.int .u64 (h i))
theorem MRow.of_block {w w' : World} {g n : Nat} {h : Nat → Int} (r : MRow w g n h) (hs : w.heap.size ≤ w'.heap.size) (hb : w'.heap[g]? = w.heap[g]?) : MRow w' g n h :=
  ⟨Nat.lt_of_lt_of_le r.1 hs, fun i hi => (World.cell?_of_block (w := w) (a := ⟨g, i * 8 + 1, none⟩) hb).trans (r.2 i hi)⟩
theorem MRow.below {w w' : World} {g n : Nat} {h : Nat → Int} (r : MRow w g n h) (hb : Below w.heap.size w w') : MRow w' g n h := r.of_block hb.size (hb.block g r.1)

set_option maxHeartbeats 1000000 in
/-- item. -/
theorem item_any (p o gM n i : Nat) (hn : n ≤ 4096) (hi : i < n) (w : World) (c : w.cell? ⟨p, o, none⟩ = some (.slice (some ⟨gM, 0, none⟩) n n)) :
    Calls Try.prog 25 #[.pointer (some ⟨p, o, none⟩), .int .i32 i] w fun e w' => e = .returned (.pointer (some ⟨gM, i * 8, none⟩)) ∧ w' = w := by
  have i0 : (0 : Int) ≤ (i : Int) := by omega
  have i1 : (i : Int) < (n : Int) := by omega
  go_enter Try.func25, Try.ntmps25
  go_wp2
  go_ret
  exact ⟨by simp, rfl⟩

set_option maxHeartbeats 1000000 in
/-- before. -/
theorem before_any (p o gM n i j : Nat) (h : Nat → Int) (hn : n ≤ 4096) (hi : i < n) (hj : j < n) (w : World) (c : w.cell? ⟨p, o, none⟩ = some (.slice (some ⟨gM, 0, none⟩) n n)) (hr : MRow w gM n h) :
    Calls Try.prog 23 #[.pointer (some ⟨p, o, none⟩), .int .i32 i, .int .i32 j] w fun e w' => e = .returned (.bool (lt h i j)) ∧ ∃ q, w' = w.drewN q := by
  have c1 := hr.2 i hi
  have c2 := hr.2 j hj
  clear hr
  have C : Hid (∀ q, (w.drewN q).cell? ⟨p, o, none⟩ = some (.slice (some ⟨gM, 0, none⟩) n n)) := fun q => c
  clear c
  have HI := hid hi
  have HJ := hid hj
  clear hi hj
  by_cases h1 : h i < h j
  · have HE := hid (lt_pos (h := h) (i := i) (j := j) (.inl h1))
    generalize h i = a at *
    generalize h j = b at *
    generalize lt h i j = t at *
    have hd : decide (a < b) = true := by simp; omega
    go_enter Try.func23, Try.ntmps23
    go_wp2
    go_quiet ((go_at_call 25; refine Calls.quiet_of_same (item_any p o gM n _ hn (by first | exact HI.out | exact HJ.out) _ (C.out _))))
    go_wp2
    go_ret
    exact ⟨by rw [HE.out]; rfl, _, rfl⟩
  · by_cases h2 : h i = h j
    · by_cases h3 : i < j
      · have HE := hid (lt_pos (h := h) (i := i) (j := j) (.inr ⟨h2, h3⟩))
        rw [h2] at c1
        clear h1 h2
        generalize h j = b at *
        generalize lt h i j = t at *
        have hd : decide (b < b) = false := by simp
        have he : (b == b) = true := by simp
        have hl : decide ((i : Int) < (j : Int)) = true := by simp; omega
        have hl' : decide (i < j) = true := by simp; omega
        go_enter Try.func23, Try.ntmps23
        go_wp2
        go_quiet ((go_at_call 25; refine Calls.quiet_of_same (item_any p o gM n _ hn (by first | exact HI.out | exact HJ.out) _ (C.out _))))
        go_wp2
        go_ret
        exact ⟨by rw [HE.out]; rfl, _, rfl⟩
      · have HE := hid (lt_neg (h := h) (i := i) (j := j) (by omega))
        rw [h2] at c1
        clear h1 h2
        generalize h j = b at *
        generalize lt h i j = t at *
        have hd : decide (b < b) = false := by simp
        have he : (b == b) = true := by simp
        have hl : decide ((i : Int) < (j : Int)) = false := by simp; omega
        have hl' : decide (i < j) = false := by simp; omega
        go_enter Try.func23, Try.ntmps23
        go_wp2
        go_quiet ((go_at_call 25; refine Calls.quiet_of_same (item_any p o gM n _ hn (by first | exact HI.out | exact HJ.out) _ (C.out _))))
        go_wp2
        go_ret
        exact ⟨by rw [HE.out]; rfl, _, rfl⟩
    · have HE := hid (lt_neg (h := h) (i := i) (j := j) (by omega))
      generalize h i = a at *
      generalize h j = b at *
      generalize lt h i j = t at *
      have hd : decide (a < b) = false := by simp; omega
      have he : (a == b) = false := by simp; omega
      clear h2
      go_enter Try.func23, Try.ntmps23
      go_wp2
      go_quiet ((go_at_call 25; refine Calls.quiet_of_same (item_any p o gM n _ hn (by first | exact HI.out | exact HJ.out) _ (C.out _))))
      go_wp2
      go_ret
      exact ⟨by rw [HE.out]; rfl, _, rfl⟩

theorem before_lit {p o gM n i j : Nat} {h : Nat → Int} (hn : n ≤ 4096) (hi : i < n) (hj : j < n) {w : World} (c : w.cell? ⟨p, o, none⟩ = some (.slice (some ⟨gM, 0, none⟩) n n)) (hr : MRow w gM n h) {t : Bool} (ht : lt h i j = t) :
    Calls Try.prog 23 #[.pointer (some ⟨p, o, none⟩), .int .i32 i, .int .i32 j] w fun e w' => e = .returned (.bool t) ∧ ∃ q, w' = w.drewN q := by
  subst ht; exact before_any p o gM n i j h hn hi hj w c hr

/-- What the part of a run on one side of a bound is. -/
def partOf (h : Nat → Int) (x y z : Nat) (older : Bool) : Nat × Nat × Bool :=
  if older then (if lt h z x then (x, y, false) else (x, if lt h z y then z else y, true))
  else (if lt h y z then (x, y, false) else (if lt h x z then z else x, y, true))

def PartEnd (h : Nat → Int) (x y z : Nat) (older : Bool) (w : World) (e : Ending) (w' : World) : Prop :=
  e = .returned (.tuple #[.int .i32 ((partOf h x y z older).1 : Int), .int .i32 ((partOf h x y z older).2.1 : Int), .bool (partOf h x y z older).2.2]) ∧ Below w.heap.size w w'

theorem PartEnd.mk {h : Nat → Int} {x y z : Nat} {older : Bool} {w w' : World} {a b : Nat} {t : Bool} (he : partOf h x y z older = (a, b, t)) (hb : Below w.heap.size w w') :
    PartEnd h x y z older w (.returned (.tuple #[.int .i32 (a : Int), .int .i32 (b : Int), .bool t])) w' := ⟨by rw [he], hb⟩

set_option maxHeartbeats 2000000 in
/-- part. -/
theorem part_any (v o s gM n x y z : Nat) (h : Nat → Int) (older : Bool) (hn : n ≤ 4096) (hx : x < n) (hy : y < n) (hz : z < n) (w : World) (c : w.cell? ⟨v, 2, none⟩ = some (.slice (some ⟨gM, 0, none⟩) n n)) (hr : MRow w gM n h)
    (cb : w.cell? ⟨s, 0, none⟩ = some (.int .i32 z)) (co : w.cell? ⟨s, 1, none⟩ = some (.bool older)) (hv : v < w.heap.size) (hs : s < w.heap.size) :
    Calls Try.prog 20 #[.pointer (some ⟨v, 0, none⟩), .agg #[.int .i32 x, .int .i32 y], .pointer (some ⟨s, 0, none⟩)] w (PartEnd h x y z older w) := by
  have HX := hid hx
  have HY := hid hy
  have HZ := hid hz
  have HR := hid hr
  have HV := hid hv
  have HS := hid hs
  have hC := hid c
  clear hx hy hz hr hv hs c
  go_enter Try.func20, Try.ntmps20
  go_wp2
  go_quiet (fail)
  generalize hW : World.drewN _ _ = W
  have B0 : Hid (Below w.heap.size w W) := by rw [← hW]; exact below_drewN ((Below.refl _ w).alloc (Nat.le_refl _) _) _
  clear hW
  have C : Hid (∀ q, (W.drewN q).cell? ⟨v, 2, none⟩ = some (.slice (some ⟨gM, 0, none⟩) n n)) := fun q => (B0.out.cell (p := ⟨v, 2, none⟩) HV.out).trans hC.out
  have M : Hid (∀ q, MRow (W.drewN q) gM n h) := fun q => HR.out.below (below_drewN B0.out q)
  have cb' : W.cell? ⟨s, 0, none⟩ = some (.int .i32 z) := (B0.out.cell (p := ⟨s, 0, none⟩) HS.out).trans cb
  have co' : W.cell? ⟨s, 1, none⟩ = some (.bool older) := (B0.out.cell (p := ⟨s, 1, none⟩) HS.out).trans co
  clear cb co hC HR HV HS
  cases older
  · cases e1 : lt h y z
    · have E1 := hid e1
      cases e2 : lt h x z
      · have E2 := hid e2
        have HE : Hid (partOf h x y z false = (x, y, true)) := by simp [partOf, Hid, e1, e2]
        clear e1 e2
        go_wp2
        go_quiet ((go_at_call 23; refine Calls.quiet_of (before_lit hn (by first | exact HX.out | exact HY.out | exact HZ.out) (by first | exact HX.out | exact HY.out | exact HZ.out) (C.out _) (M.out _) E1.out)))
        generalize hW2 : World.drewN W _ = W2
        have B0 : Hid (Below w.heap.size w W2) := by rw [← hW2]; exact below_drewN B0.out _
        have C : Hid (∀ q, (W2.drewN q).cell? ⟨v, 2, none⟩ = some (.slice (some ⟨gM, 0, none⟩) n n)) := by rw [← hW2]; exact fun q => C.out 0
        have M : Hid (∀ q, MRow (W2.drewN q) gM n h) := by rw [← hW2]; exact fun q => M.out 0
        have cb' : W2.cell? ⟨s, 0, none⟩ = some (.int .i32 z) := by rw [← hW2]; exact cb'
        clear hW2
        go_wp2
        go_quiet ((go_at_call 23; refine Calls.quiet_of (before_lit hn (by first | exact HX.out | exact HY.out | exact HZ.out) (by first | exact HX.out | exact HY.out | exact HZ.out) (C.out _) (M.out _) E2.out)))
        go_wp2
        go_ret3
        exact PartEnd.mk HE.out (below_drewN B0.out _)
      · have E2 := hid e2
        have HE : Hid (partOf h x y z false = (z, y, true)) := by simp [partOf, Hid, e1, e2]
        clear e1 e2
        go_wp2
        go_quiet ((go_at_call 23; refine Calls.quiet_of (before_lit hn (by first | exact HX.out | exact HY.out | exact HZ.out) (by first | exact HX.out | exact HY.out | exact HZ.out) (C.out _) (M.out _) E1.out)))
        generalize hW2 : World.drewN W _ = W2
        have B0 : Hid (Below w.heap.size w W2) := by rw [← hW2]; exact below_drewN B0.out _
        have C : Hid (∀ q, (W2.drewN q).cell? ⟨v, 2, none⟩ = some (.slice (some ⟨gM, 0, none⟩) n n)) := by rw [← hW2]; exact fun q => C.out 0
        have M : Hid (∀ q, MRow (W2.drewN q) gM n h) := by rw [← hW2]; exact fun q => M.out 0
        have cb' : W2.cell? ⟨s, 0, none⟩ = some (.int .i32 z) := by rw [← hW2]; exact cb'
        clear hW2
        go_wp2
        go_quiet ((go_at_call 23; refine Calls.quiet_of (before_lit hn (by first | exact HX.out | exact HY.out | exact HZ.out) (by first | exact HX.out | exact HY.out | exact HZ.out) (C.out _) (M.out _) E2.out)))
        go_wp2
        go_ret3
        exact PartEnd.mk HE.out (below_drewN B0.out _)
    · have E1 := hid e1
      have HE : Hid (partOf h x y z false = (x, y, false)) := by simp [partOf, Hid, e1]
      clear e1
      go_wp2
      go_quiet ((go_at_call 23; refine Calls.quiet_of (before_lit hn (by first | exact HX.out | exact HY.out | exact HZ.out) (by first | exact HX.out | exact HY.out | exact HZ.out) (C.out _) (M.out _) E1.out)))
      go_wp2
      go_ret3
      exact PartEnd.mk HE.out (below_drewN B0.out _)
  · cases e1 : lt h z x
    · have E1 := hid e1
      cases e2 : lt h z y
      · have E2 := hid e2
        have HE : Hid (partOf h x y z true = (x, y, true)) := by simp [partOf, Hid, e1, e2]
        clear e1 e2
        go_wp2
        go_quiet ((go_at_call 23; refine Calls.quiet_of (before_lit hn (by first | exact HX.out | exact HY.out | exact HZ.out) (by first | exact HX.out | exact HY.out | exact HZ.out) (C.out _) (M.out _) E1.out)))
        generalize hW2 : World.drewN W _ = W2
        have B0 : Hid (Below w.heap.size w W2) := by rw [← hW2]; exact below_drewN B0.out _
        have C : Hid (∀ q, (W2.drewN q).cell? ⟨v, 2, none⟩ = some (.slice (some ⟨gM, 0, none⟩) n n)) := by rw [← hW2]; exact fun q => C.out 0
        have M : Hid (∀ q, MRow (W2.drewN q) gM n h) := by rw [← hW2]; exact fun q => M.out 0
        have cb' : W2.cell? ⟨s, 0, none⟩ = some (.int .i32 z) := by rw [← hW2]; exact cb'
        clear hW2
        go_wp2
        go_quiet ((go_at_call 23; refine Calls.quiet_of (before_lit hn (by first | exact HX.out | exact HY.out | exact HZ.out) (by first | exact HX.out | exact HY.out | exact HZ.out) (C.out _) (M.out _) E2.out)))
        go_wp2
        go_ret3
        exact PartEnd.mk HE.out (below_drewN B0.out _)
      · have E2 := hid e2
        have HE : Hid (partOf h x y z true = (x, z, true)) := by simp [partOf, Hid, e1, e2]
        clear e1 e2
        go_wp2
        go_quiet ((go_at_call 23; refine Calls.quiet_of (before_lit hn (by first | exact HX.out | exact HY.out | exact HZ.out) (by first | exact HX.out | exact HY.out | exact HZ.out) (C.out _) (M.out _) E1.out)))
        generalize hW2 : World.drewN W _ = W2
        have B0 : Hid (Below w.heap.size w W2) := by rw [← hW2]; exact below_drewN B0.out _
        have C : Hid (∀ q, (W2.drewN q).cell? ⟨v, 2, none⟩ = some (.slice (some ⟨gM, 0, none⟩) n n)) := by rw [← hW2]; exact fun q => C.out 0
        have M : Hid (∀ q, MRow (W2.drewN q) gM n h) := by rw [← hW2]; exact fun q => M.out 0
        have cb' : W2.cell? ⟨s, 0, none⟩ = some (.int .i32 z) := by rw [← hW2]; exact cb'
        clear hW2
        go_wp2
        go_quiet ((go_at_call 23; refine Calls.quiet_of (before_lit hn (by first | exact HX.out | exact HY.out | exact HZ.out) (by first | exact HX.out | exact HY.out | exact HZ.out) (C.out _) (M.out _) E2.out)))
        go_wp2
        go_ret3
        exact PartEnd.mk HE.out (below_drewN B0.out _)
    · have E1 := hid e1
      have HE : Hid (partOf h x y z true = (x, y, false)) := by simp [partOf, Hid, e1]
      clear e1
      go_wp2
      go_quiet ((go_at_call 23; refine Calls.quiet_of (before_lit hn (by first | exact HX.out | exact HY.out | exact HZ.out) (by first | exact HX.out | exact HY.out | exact HZ.out) (C.out _) (M.out _) E1.out)))
      go_wp2
      go_ret3
      exact PartEnd.mk HE.out (below_drewN B0.out _)
end Go.Proofs.Qxb6609258a
