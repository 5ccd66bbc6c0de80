import Derived.Test.Qxb6609258aE
import Derived.Test.Qxb6609258aP2
import Derived.Deep.RegionHeld3
namespace Go.Proofs.Qxb6609258a
open Go.ChangeShapes Go.WideShapes Go.ChangeAt Go.RowKit
set_option linter.unusedVariables false

def zero60 : Value := .agg #[.int .u64 0, .int .u64 0, .int .u64 0, .int .u64 0, .int .i32 0, .int .i32 0, .int .i32 0, .int .u32 0]
theorem info60 : (Try.prog.info? 60).map (fun i => (i.zero, i.size, i.bytes)) = some (some zero60, 8, 48) := by kernel_rfl

/-- n nodes of eight cells that may be written. -/
def ERow (w : World) (g n : Nat) : Prop := ∀ t, t < n → ∀ j, j < 8 → (∃ v : Value, w.cell? ⟨g, t * 8 + j, none⟩ = some v) ∧ w.frozen? ⟨g, t * 8 + j, none⟩ = false

theorem ERow.made {w : World} {T : TypeId} {g n : Nat} (h : w.ownsRow 0 T 8 (.slice (some ⟨g, 0, none⟩) n n) n (madeCells zero60.cells (n * 8)).toList) : g < w.heap.size ∧ ERow w g n := by
  refine ⟨(h.lt g rfl).2, fun t ht j hj => ⟨⟨zero60.cells[j]!, ?_⟩, h.frozenAt _⟩⟩
  have hsz : (madeCells zero60.cells (n * 8)).toList.length = n * 8 := by simp [madeCells]
  rw [h.cellAt (t * 8 + j) (by omega), made_at zero60.cells n 8 t j rfl ht hj]

theorem ERow.set {w : World} {g n : Nat} (h : ERow w g n) (o : Nat) (v : Value) : ERow (w.setCell ⟨g, o, none⟩ v) g n := by
  intro t ht j hj
  obtain ⟨⟨u, hu⟩, hf⟩ := h t ht j hj
  refine ⟨?_, by simpa using hf⟩
  by_cases e : t * 8 + j = o
  · subst e; exact ⟨v, World.cell?_setCell_same _ _ _ hu⟩
  · exact ⟨u, (World.cell?_setCell_other _ _ _ _ (fun q => e (congrArg Addr.off q).symm)).trans hu⟩
theorem ERow.sets {g n : Nat} : ∀ (vs : List Value) (o : Nat) {w : World}, ERow w g n → ERow (w.setCells g o vs) g n
  | [], _, _, h => h
  | v :: vs, o, _, h => ERow.sets vs (o + 1) (h.set o v)

theorem set8 (w : World) (g o : Nat) (v0 v1 v2 v3 v4 v5 v6 v7 : Value) :
    ((((((((w.setCell ⟨g, o, none⟩ v0).setCell ⟨g, o + 1, none⟩ v1).setCell ⟨g, o + 2, none⟩ v2).setCell ⟨g, o + 3, none⟩ v3).setCell ⟨g, o + 4, none⟩ v4).setCell ⟨g, o + 5, none⟩ v5).setCell ⟨g, o + 6, none⟩ v6).setCell ⟨g, o + 7, none⟩ v7) = w.setCells g o [v0, v1, v2, v3, v4, v5, v6, v7] := by
  simp only [World.setCells, Nat.add_assoc, Nat.reduceAdd]

/-- What holds before round k. -/
structure IInv (w : World) (n p gM : Nat) (h : Nat → Int) (k : Nat) (wr : World) : Prop where
  b : Below w.heap.size w wr
  hp : p < wr.heap.size
  c0 : wr.cell? ⟨p, 0, none⟩ = some (.slice (some ⟨gM, 0, none⟩) n n)
  c1 : wr.cell? ⟨p, 1, none⟩ = some (.int .i32 0)
  f1 : wr.frozen? ⟨p, 1, none⟩ = false
  hM : gM < wr.heap.size
  e : ERow wr gM n
  g : ∀ t, t < k → wr.cell? ⟨gM, t * 8 + 1, none⟩ = some (.int .u64 (h t))

theorem IInv.step {w : World} {n p gM : Nat} {h : Nat → Int} {k : Nat} {wr : World} (I : IInv w n p gM h k wr) (hk : k < n) (hne : p ≠ gM) (hge : w.heap.size ≤ gM) (v0 v2 v3 v4 v5 v6 v7 : Value) :
    IInv w n p gM h (k + 1) (wr.setCells gM (k * 8) [v0, .int .u64 (h k), v2, v3, v4, v5, v6, v7]) := by
  have hsome : ∀ j, j < 8 → (wr.cell? ⟨gM, k * 8 + j, none⟩).isSome = true := fun j hj => by
    obtain ⟨⟨u, hu⟩, _⟩ := I.e k hk j hj
    rw [hu]; rfl
  have hin := World.cell?_setCells_in gM [v0, .int .u64 (h k), v2, v3, v4, v5, v6, v7] (k * 8) wr (by simpa using hsome)
  have hb := below_setCells I.b hge [v0, .int .u64 (h k), v2, v3, v4, v5, v6, v7] (k * 8)
  have hsz : wr.heap.size ≤ (wr.setCells gM (k * 8) [v0, .int .u64 (h k), v2, v3, v4, v5, v6, v7]).heap.size := (below_setCells (Below.refl 0 wr) (Nat.zero_le gM) _ _).size
  refine ⟨hb, Nat.lt_of_lt_of_le I.hp hsz, ?_, ?_, ?_, Nat.lt_of_lt_of_le I.hM hsz, (I.e.sets [v0, .int .u64 (h k), v2, v3, v4, v5, v6, v7] (k * 8)), fun t ht => ?_⟩
  · rw [World.cell?_setCells_out _ _ _ _ _ (fun e _ => absurd e hne)]; exact I.c0
  · rw [World.cell?_setCells_out _ _ _ _ _ (fun e _ => absurd e hne)]; exact I.c1
  · rw [World.frozen?_setCells]; exact I.f1
  · by_cases e : t = k
    · subst e; exact hin 1 (by simp)
    · rw [World.cell?_setCells_out _ _ _ _ _ (fun _ _ => by simp; omega)]; exact I.g t (by omega)

theorem IInv.drew {w : World} {n p gM : Nat} {h : Nat → Int} {k : Nat} {wr : World} (I : IInv w n p gM h k wr) : IInv w n p gM h k wr.drew := ⟨I.b.drew, I.hp, I.c0, I.c1, I.f1, I.hM, I.e, I.g⟩

def SR (gN k p gM n : Nat) (a b c d l r q : Int) (W : World) : Prop :=
  W.cell? ⟨gN, k * 7, none⟩ = some (.int .u64 a) ∧ W.cell? ⟨gN, k * 7 + 1, none⟩ = some (.int .u64 b) ∧ W.cell? ⟨gN, k * 7 + 2, none⟩ = some (.int .u64 c) ∧ W.cell? ⟨gN, k * 7 + 3, none⟩ = some (.int .u64 d) ∧
  W.cell? ⟨gN, k * 7 + 4, none⟩ = some (.int .i32 l) ∧ W.cell? ⟨gN, k * 7 + 5, none⟩ = some (.int .i32 r) ∧ W.cell? ⟨gN, k * 7 + 6, none⟩ = some (.int .i32 q) ∧ W.cell? ⟨p, 0, none⟩ = some (.slice (some ⟨gM, 0, none⟩) n n)
theorem SR.drew {gN k p gM n : Nat} {a b c d l r q : Int} {W : World} (h : SR gN k p gM n a b c d l r q W) : SR gN k p gM n a b c d l r q W.drew := h
theorem SR.sets {gN k p gM n : Nat} {a b c d l r q : Int} {W : World} (h : SR gN k p gM n a b c d l r q W) (h1 : gN ≠ gM) (h2 : p ≠ gM) (o : Nat) (vs : List Value) : SR gN k p gM n a b c d l r q (W.setCells gM o vs) := by
  obtain ⟨m0, m1, m2, m3, m4, m5, m6, b0⟩ := h
  refine ⟨?_, ?_, ?_, ?_, ?_, ?_, ?_, ?_⟩
  all_goals
    rw [World.cell?_setCells_out _ _ _ _ _ (fun e _ => absurd e (by assumption))]
    assumption
theorem SR.set {gN k p gM n : Nat} {a b c d l r q : Int} {W : World} (h : SR gN k p gM n a b c d l r q W) (h1 : gN ≠ gM) (h2 : p ≠ gM) {o : Nat} (vs : List Value) : SR gN k p gM n a b c d l r q (W.setCells gM o vs).drew := (h.sets h1 h2 o vs).drew

def IdxEnd (n : Nat) (h : Nat → Int) (w : World) (e : Ending) (w' : World) : Prop :=
  ∃ p gM, e = .returned (.pointer (some ⟨p, 0, none⟩)) ∧ Idx w' p gM n h ∧ Below w.heap.size w w'

set_option maxRecDepth 100000 in
set_option maxHeartbeats 4000000 in
/-- ZZnewSpanIndex. -/
theorem index_any (gN n : Nat) (r : Int) (h : Nat → Int) (hn : n ≤ 4096) (w : World) (hN : NRow w gN n) (hG : ∀ t, t < n → Good w gN h t) :
    Calls Try.prog 11 #[.slice (some ⟨gN, 0, none⟩) n n, .int .i32 r] w (IdxEnd n h w) := by
  have RN := hid hN
  have RG := hid hG
  clear hN hG
  obtain ⟨i0, hi, hz0, hz1, hz2⟩ := info_parts info60
  go_enter Try.func11, Try.ntmps11
  go_upto_region 2 with fail
  generalize hW : World.alloc _ _ = W1
  have hb1 : Below w.heap.size w W1 := by rw [← hW]; exact (Below.refl _ w).alloc (Nat.le_refl _) _
  have hsz : w.heap.size < W1.heap.size := by rw [← hW]; simp
  have k0 : W1.cell? ⟨w.heap.size, 0, none⟩ = some (.slice none 0 0) := by rw [← hW, World.cell?_alloc_at _ _ _ _ rfl]; rfl
  have k1 : W1.cell? ⟨w.heap.size, 1, none⟩ = some (.int .i32 0) := by rw [← hW, World.cell?_alloc_at _ _ _ _ rfl]; rfl
  have y0 : W1.frozen? ⟨w.heap.size, 0, none⟩ = false := by rw [← hW, World.frozen?_alloc_at _ _ _ _ rfl]
  have y1 : W1.frozen? ⟨w.heap.size, 1, none⟩ = false := by rw [← hW, World.frozen?_alloc_at _ _ _ _ rfl]
  have K0 := hid k0
  have K1 := hid k1
  have Y0 := hid y0
  have Y1 := hid y1
  have B1 := hid hb1
  clear hW k0 k1 y0 y1 hb1
  go_wp2_with (at_make; refine wpList_make_full _ rfl (.tmp 11) (.tmp 11) 47 rfl 0 60 i0 zero60 8 Try.underlying47 hi hz0 hz1 .i64 .i64 _ _ n rfl rfl (by omega) (by omega) (by rw [hz2]; omega) (by unfold maxLen; omega) (Nat.zero_le _) ?_; intro w2 hown2 hgrow2; have hb2 : Hid (Below W1.heap.size W1 w2) := (Below.refl _ W1).grown hgrow2 (Nat.le_refl _) (by intro k h; cases h); have r2 := hid (ERow.made hown2); clear hown2 hgrow2; have d0 : w2.cell? ⟨w.heap.size, 0, none⟩ = some (.slice none 0 0) := (hb2.out.cell (p := ⟨w.heap.size, 0, none⟩) hsz).trans K0.out; have z0 : w2.frozen? ⟨w.heap.size, 0, none⟩ = false := (World.frozen?_of_block (w := W1) (a := ⟨w.heap.size, 0, none⟩) (hb2.out.block _ hsz)).trans Y0.out)
  have INV : Hid (IInv w n w.heap.size W1.heap.size h 0 (w2.setCell ⟨w.heap.size, 0, none⟩ (.slice (some ⟨W1.heap.size, 0, none⟩) n n))) := by
    have hb : Below w.heap.size w w2 := B1.out.trans (hb2.out.mono (Nat.le_of_lt hsz))
    have hs2 : W1.heap.size < w2.heap.size := r2.out.1
    have hsz3 : (w2.setCell ⟨w.heap.size, 0, none⟩ (.slice (some ⟨W1.heap.size, 0, none⟩) n n)).heap.size = w2.heap.size := by simp [World.setCell]
    refine ⟨hb.setCell (p := ⟨w.heap.size, 0, none⟩) (Nat.le_refl _) _, by omega, World.cell?_setCell_same _ _ _ d0, ?_, ?_, by omega, ?_, fun t ht => absurd ht (by omega)⟩
    · rw [World.cell?_setCell_other _ _ _ _ (fun q => absurd (congrArg Addr.off q) (by simp))]; exact (hb2.out.cell (p := ⟨w.heap.size, 1, none⟩) hsz).trans K1.out
    · have : w2.frozen? ⟨w.heap.size, 1, none⟩ = false := (World.frozen?_of_block (w := W1) (a := ⟨w.heap.size, 1, none⟩) (hb2.out.block _ hsz)).trans Y1.out
      simpa using this
    · intro t ht j hj
      obtain ⟨⟨u, hu⟩, hf⟩ := r2.out.2 t ht j hj
      exact ⟨⟨u, (World.cell?_setCell_other _ _ _ _ (fun q => absurd (congrArg Addr.block q) (by simp; omega))).trans hu⟩, by simpa using hf⟩
  clear K0 K1 Y0 Y1 B1 hb2 r2 d0 z0 hi hz0 hz1 hz2
  have hne : w.heap.size ≠ W1.heap.size := by omega
  go_loopw [18, 6] (fun i _ wr => ∃ k : Nat, k ≤ n ∧ i = .int .i64 k ∧ Hid (IInv w n w.heap.size W1.heap.size h k wr)) (fun i _ _ => n - (intOf i).toNat)
  case atStart => exact ⟨0, Nat.zero_le _, rfl, INV⟩
  case round =>
    obtain ⟨k, hk, rfl, I⟩ := hrel
    clear INV
    by_cases hlt : k < n
    · obtain ⟨⟨a, b, c, d, l, rr, q, c0, c1, c2, c3, c4, c5, c6⟩, _⟩ := RN.out k hlt
      have hgl : gN < w.heap.size := World.block_lt_of_cell? w _ c0
      have hg := RG.out k hlt
      have m0 : wr.cell? ⟨gN, k * 7, none⟩ = some (.int .u64 a) := (I.out.b.cell (p := ⟨gN, k * 7, none⟩) hgl).trans c0
      have m1 : wr.cell? ⟨gN, k * 7 + 1, none⟩ = some (.int .u64 (h k)) := (I.out.b.cell (p := ⟨gN, k * 7 + 1, none⟩) hgl).trans hg
      have m2 : wr.cell? ⟨gN, k * 7 + 2, none⟩ = some (.int .u64 c) := (I.out.b.cell (p := ⟨gN, k * 7 + 2, none⟩) hgl).trans c2
      have m3 : wr.cell? ⟨gN, k * 7 + 3, none⟩ = some (.int .u64 d) := (I.out.b.cell (p := ⟨gN, k * 7 + 3, none⟩) hgl).trans c3
      have m4 : wr.cell? ⟨gN, k * 7 + 4, none⟩ = some (.int .i32 l) := (I.out.b.cell (p := ⟨gN, k * 7 + 4, none⟩) hgl).trans c4
      have m5 : wr.cell? ⟨gN, k * 7 + 5, none⟩ = some (.int .i32 rr) := (I.out.b.cell (p := ⟨gN, k * 7 + 5, none⟩) hgl).trans c5
      have m6 : wr.cell? ⟨gN, k * 7 + 6, none⟩ = some (.int .i32 q) := (I.out.b.cell (p := ⟨gN, k * 7 + 6, none⟩) hgl).trans c6
      clear c0 c1 c2 c3 c4 c5 c6 hg
      obtain ⟨⟨u0, e0⟩, z0⟩ := I.out.e k hlt 0 (by omega)
      obtain ⟨⟨u1, e1⟩, z1⟩ := I.out.e k hlt 1 (by omega)
      obtain ⟨⟨u2, e2⟩, z2⟩ := I.out.e k hlt 2 (by omega)
      obtain ⟨⟨u3, e3⟩, z3⟩ := I.out.e k hlt 3 (by omega)
      obtain ⟨⟨u4, e4⟩, z4⟩ := I.out.e k hlt 4 (by omega)
      obtain ⟨⟨u5, e5⟩, z5⟩ := I.out.e k hlt 5 (by omega)
      obtain ⟨⟨u6, e6⟩, z6⟩ := I.out.e k hlt 6 (by omega)
      obtain ⟨⟨u7, e7⟩, z7⟩ := I.out.e k hlt 7 (by omega)
      rw [Nat.add_zero] at e0 z0
      have b0 := I.out.c0
      have NX := hid (I.out.step hlt hne (Nat.le_of_lt hsz) (.int .u64 a) (.int .u64 c) (.int .u64 d) (.int .i32 l) (.int .i32 rr) (.int .i32 q) (.int .u32 0)).drew
      clear I
      have hk0 : (0 : Int) ≤ (k : Int) := by omega
      have hk1 : (k : Int) < (n : Int) := by omega
      have hnN : gN ≠ W1.heap.size := by omega
      generalize h k = hk' at *
      generalize hMM : W1.heap.size = gM at *
      generalize hPP : w.heap.size = pp at *
      have HS : Hid (wr.drew.cell? ⟨gN, k * 7, none⟩ = some (.int .u64 a) ∧ wr.drew.cell? ⟨gN, k * 7 + 1, none⟩ = some (.int .u64 hk') ∧ wr.drew.cell? ⟨gN, k * 7 + 2, none⟩ = some (.int .u64 c) ∧ wr.drew.cell? ⟨gN, k * 7 + 3, none⟩ = some (.int .u64 d) ∧ wr.drew.cell? ⟨gN, k * 7 + 4, none⟩ = some (.int .i32 l) ∧ wr.drew.cell? ⟨gN, k * 7 + 5, none⟩ = some (.int .i32 rr) ∧ wr.drew.cell? ⟨gN, k * 7 + 6, none⟩ = some (.int .i32 q) ∧ wr.drew.cell? ⟨pp, 0, none⟩ = some (.slice (some ⟨gM, 0, none⟩) n n)) := ⟨m0, m1, m2, m3, m4, m5, m6, b0⟩
      have HT : Hid (SR gN k pp gM n a hk' c d l rr q (wr.setCells gM (k * 8) [.int .u64 a, .int .u64 hk', .int .u64 c, .int .u64 d, .int .i32 l, .int .i32 rr, .int .i32 q, .int .u32 0]).drew) := SR.set ⟨m0, m1, m2, m3, m4, m5, m6, b0⟩ hnN hne _
      go_upto_region 6 with fail
      clear m0 m1 m2 m3 m4 m5 m6 b0
      go_region_held3 (fun W => W.cell? ⟨gN, k * 7, none⟩ = some (.int .u64 a) ∧ W.cell? ⟨gN, k * 7 + 1, none⟩ = some (.int .u64 hk') ∧ W.cell? ⟨gN, k * 7 + 2, none⟩ = some (.int .u64 c) ∧ W.cell? ⟨gN, k * 7 + 3, none⟩ = some (.int .u64 d) ∧ W.cell? ⟨gN, k * 7 + 4, none⟩ = some (.int .i32 l) ∧ W.cell? ⟨gN, k * 7 + 5, none⟩ = some (.int .i32 rr) ∧ W.cell? ⟨gN, k * 7 + 6, none⟩ = some (.int .i32 q) ∧ W.cell? ⟨pp, 0, none⟩ = some (.slice (some ⟨gM, 0, none⟩) n n)) (first | with_reducible exact HS.out | ((try dsimp only); rw [set8]; exact HT.out)) (fail)
      generalize hW : World.drew _ = W3
      have NX' : Hid (IInv w n pp gM h (k + 1) W3) := by rw [← hW, set8]; exact NX.out
      clear hW NX HS HT e0 e1 e2 e3 e4 e5 e6 e7 z0 z1 z2 z3 z4 z5 z6 z7
      go_wp2_with fail
      go_roundw
      case rel => exact ⟨k + 1, by omega, by go_num, NX'⟩
      case measure => simp [intOf]; omega
    · have hkn : k = n := by omega
      subst hkn
      have d1 := I.out.c1
      have d2 := I.out.f1
      have HF : Hid (IdxEnd k h w (.returned (.pointer (some ⟨w.heap.size, 0, none⟩))) (wr.setCell ⟨w.heap.size, 1, none⟩ (.int .i32 r))) := by
        have J := I.out
        have hsz3 : (wr.setCell ⟨w.heap.size, 1, none⟩ (.int .i32 r)).heap.size = wr.heap.size := by simp [World.setCell]
        refine ⟨w.heap.size, W1.heap.size, rfl, ⟨by rw [hsz3]; exact J.hp, ?_, ⟨r, World.cell?_setCell_same _ _ _ d1⟩, by rw [hsz3]; exact J.hM, fun t ht => ?_⟩, J.b.setCell (p := ⟨w.heap.size, 1, none⟩) (Nat.le_refl _) _⟩
        · rw [World.cell?_setCell_other _ _ _ _ (fun q => absurd (congrArg Addr.off q) (by simp))]; exact J.c0
        · rw [World.cell?_setCell_other _ _ _ _ (fun q => absurd (congrArg Addr.block q) hne)]; exact J.g t ht
      clear I
      go_wp2_with fail
      go_ret
      exact HF.out
end Go.Proofs.Qxb6609258a
