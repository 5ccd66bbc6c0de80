import Derived.Test.Qxb6609258aP
namespace Go.Proofs.Qxb6609258a
open Go.ChangeShapes Go.WideShapes Go.ChangeAt Go.RowKit
set_option linter.unusedVariables false

/-- The index: its box, its nodes. -/
structure Idx (w : World) (p gM n : Nat) (h : Nat → Int) : Prop where
  lt : p < w.heap.size
  nodes : w.cell? ⟨p, 0, none⟩ = some (.slice (some ⟨gM, 0, none⟩) n n)
  top : ∃ r : Int, w.cell? ⟨p, 1, none⟩ = some (.int .i32 r)
  row : MRow w gM n h

theorem Idx.below {w w' : World} {p gM n : Nat} {h : Nat → Int} (i : Idx w p gM n h) (hb : Below w.heap.size w w') : Idx w' p gM n h :=
  ⟨Nat.lt_of_lt_of_le i.lt hb.size, (hb.cell (p := ⟨p, 0, none⟩) i.lt).trans i.nodes, by obtain ⟨r, hr⟩ := i.top; exact ⟨r, (hb.cell (p := ⟨p, 1, none⟩) i.lt).trans hr⟩, i.row.below hb⟩

set_option maxHeartbeats 2000000 in
/-- ZZpart. -/
theorem zzpart_any (p gM n x y z : Nat) (h : Nat → Int) (older : Bool) (hn : n ≤ 4096) (hx : x < n) (hy : y < n) (hz : z < n) (w : World) (hi : Idx w p gM n h) :
    Calls Try.prog 12 #[.pointer (some ⟨p, 0, none⟩), .int .i32 x, .int .i32 y, .int .i32 z, .bool older] w (PartEnd h x y z older w) := by
  obtain ⟨k0, k1, ⟨r, k2⟩, k3⟩ := hi
  have K0 := hid k0
  have K3 := hid k3
  clear k0 k3
  go_enter Try.func12, Try.ntmps12
  go_wp2_with fail
  generalize hW : World.alloc (World.alloc _ _) _ = W
  have B0 : Hid (Below w.heap.size w W) := by rw [← hW]; exact ((Below.refl _ w).alloc (Nat.le_refl _) _).alloc (Nat.le_trans (Nat.le_refl _) (by simp)) _
  have hsz : W.heap.size = w.heap.size + 2 := by rw [← hW]; simp
  have c2 : W.cell? ⟨w.heap.size, 2, none⟩ = some (.slice (some ⟨gM, 0, none⟩) n n) := by
    rw [← hW, World.cell?_alloc_past _ _ _ (by simp), World.cell?_alloc_at _ _ _ _ rfl]; rfl
  have cb : W.cell? ⟨w.heap.size + 1, 0, none⟩ = some (.int .i32 z) := by
    rw [← hW, World.cell?_alloc_at _ _ _ _ (by simp)]; rfl
  have co : W.cell? ⟨w.heap.size + 1, 1, none⟩ = some (.bool older) := by
    rw [← hW, World.cell?_alloc_at _ _ _ _ (by simp)]; rfl
  clear hW
  refine (part_any w.heap.size 0 (w.heap.size + 1) gM n x y z h older hn hx hy hz W c2 (K3.out.below B0.out) cb co (by omega) (by omega)).mono ?_
  rintro e w' ⟨rfl, hb⟩
  have HF : Hid (PartEnd h x y z older w (.returned (.tuple #[.int .i32 ((partOf h x y z older).1 : Int), .int .i32 ((partOf h x y z older).2.1 : Int), .bool (partOf h x y z older).2.2])) w') := ⟨rfl, B0.out.trans (hb.mono B0.out.size)⟩
  clear hb c2 cb co
  generalize (partOf h x y z older).1 = a at *
  generalize (partOf h x y z older).2.1 = b at *
  generalize (partOf h x y z older).2.2 = t at *
  go_wp2_with fail
  go_ret3
  exact HF.out
end Go.Proofs.Qxb6609258a
