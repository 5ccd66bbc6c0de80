import Derived.Test.Qxb6609258aB
import Derived.Laws.IdiomCopy
namespace Go.Proofs.Qxb6609258a
open Go.ChangeShapes Go.WideShapes Go.ChangeAt Go.RowKit
set_option linter.unusedVariables false

/-- A row of n nodes of seven cells: four slots, three places. -/
def NRow (w : World) (g n : Nat) : Prop := ∀ t, t < n → (∃ a b c d l r q : Int, w.cell? ⟨g, t * 7, none⟩ = some (.int .u64 a) ∧ w.cell? ⟨g, t * 7 + 1, none⟩ = some (.int .u64 b) ∧ w.cell? ⟨g, t * 7 + 2, none⟩ = some (.int .u64 c) ∧
  w.cell? ⟨g, t * 7 + 3, none⟩ = some (.int .u64 d) ∧ w.cell? ⟨g, t * 7 + 4, none⟩ = some (.int .i32 l) ∧ w.cell? ⟨g, t * 7 + 5, none⟩ = some (.int .i32 r) ∧ w.cell? ⟨g, t * 7 + 6, none⟩ = some (.int .i32 q)) ∧ ∀ j, j < 7 → w.frozen? ⟨g, t * 7 + j, none⟩ = false
/-- A row of n cells that may be written. -/
def XRow (w : World) (g n : Nat) : Prop := ∀ i, i < n → (∃ z : Int, w.cell? ⟨g, i, none⟩ = some (.int .i64 z)) ∧ w.frozen? ⟨g, i, none⟩ = false

/-- Node t's highest slot is that of span t. -/
def Good (w : World) (g : Nat) (h : Nat → Int) (t : Nat) : Prop := w.cell? ⟨g, t * 7 + 1, none⟩ = some (.int .u64 (h t))

structure Env (n B : Nat) (w0 : World) (gN gL gI gF gH gP : Nat) (fl h : Nat → Int) (ps : Nat → Nat) : Prop where
  hn : n ≤ 4096
  hF : KRow .u64 w0 gF n fl
  hH : KRow .u64 w0 gH n h
  hP : PRow w0 gP n ps
  hps : ∀ m, m < n → ps m < n
  bF : gF < B
  bH : gH < B
  bP : gP < B
  bN : B ≤ gN
  bL : B ≤ gL
  bI : B ≤ gI
  nNL : gN ≠ gL
  nNI : gN ≠ gI
  nLI : gL ≠ gI

def BInv (n B : Nat) (w0 : World) (gN gL gI : Nat) (w : World) : Prop := Below B w0 w ∧ NRow w gN n ∧ XRow w gL n ∧ XRow w gI n

theorem BInv.drewN {n B : Nat} {w0 : World} {gN gL gI : Nat} {w : World} (h : BInv n B w0 gN gL gI w) (q : Nat) : BInv n B w0 gN gL gI (w.drewN q) := ⟨below_drewN h.1 q, h.2.1, h.2.2.1, h.2.2.2⟩
theorem BInv.drew {n B : Nat} {w0 : World} {gN gL gI : Nat} {w : World} (h : BInv n B w0 gN gL gI w) : BInv n B w0 gN gL gI w.drew := h.drewN 1

theorem below_setCells {B : Nat} {a w : World} (h : Below B a w) {b : Nat} (hb : B ≤ b) : ∀ (vs : List Value) (o : Nat), Below B a (w.setCells b o vs) := by
  intro vs
  induction vs generalizing w with
  | nil => intro o; exact h
  | cons v vs ih => intro o; exact ih (h.setCell (p := ⟨b, o, none⟩) hb v) (o + 1)

theorem BInv.node {n B : Nat} {w0 : World} {gN gL gI : Nat} {w : World} (h : BInv n B w0 gN gL gI w) (hB : B ≤ gN) (h1 : gN ≠ gL) (h2 : gN ≠ gI) {t : Nat} (ht : t < n) (a b c d l r q : Int) :
    BInv n B w0 gN gL gI (w.setCells gN (t * 7) [.int .u64 a, .int .u64 b, .int .u64 c, .int .u64 d, .int .i32 l, .int .i32 r, .int .i32 q]) := by
  obtain ⟨hb, hN, hL, hI⟩ := h
  have hsome : ∀ j, j < 7 → (w.cell? ⟨gN, t * 7 + j, none⟩).isSome = true := by
    intro j hj
    obtain ⟨⟨_, _, _, _, _, _, _, c0, c1, c2, c3, c4, c5, c6⟩, _⟩ := hN t ht
    match j, hj with
    | 0, _ => rw [Nat.add_zero, c0]; rfl
    | 1, _ => rw [c1]; rfl
    | 2, _ => rw [c2]; rfl
    | 3, _ => rw [c3]; rfl
    | 4, _ => rw [c4]; rfl
    | 5, _ => rw [c5]; rfl
    | 6, _ => rw [c6]; rfl
  have hin := World.cell?_setCells_in gN [.int .u64 a, .int .u64 b, .int .u64 c, .int .u64 d, .int .i32 l, .int .i32 r, .int .i32 q] (t * 7) w (by simpa using hsome)
  refine ⟨below_setCells hb hB _ _, fun t' ht' => ⟨?_, fun j hj => ?_⟩, fun i hi => ?_, fun i hi => ?_⟩
  · by_cases e : t' = t
    · subst e
      exact ⟨a, b, c, d, l, r, q, by simpa using hin 0 (by simp), hin 1 (by simp), hin 2 (by simp), hin 3 (by simp), hin 4 (by simp), hin 5 (by simp), hin 6 (by simp)⟩
    · obtain ⟨⟨a', b', c', d', l', r', q', c0, c1, c2, c3, c4, c5, c6⟩, _⟩ := hN t' ht'
      refine ⟨a', b', c', d', l', r', q', ?_, ?_, ?_, ?_, ?_, ?_, ?_⟩
      all_goals
        rw [World.cell?_setCells_out _ _ _ _ _ (fun _ _ => by simp; omega)]
        assumption
  · rw [World.frozen?_setCells]; exact (hN t' ht').2 j hj
  · rw [World.frozen?_setCells, World.cell?_setCells_out _ _ _ _ _ (fun e _ => absurd e (fun q => h1 q.symm))]; exact hL i hi
  · rw [World.frozen?_setCells, World.cell?_setCells_out _ _ _ _ _ (fun e _ => absurd e (fun q => h2 q.symm))]; exact hI i hi

theorem Good.node {n : Nat} {g : Nat} {h : Nat → Int} {w : World} (hN : NRow w g n) {t : Nat} (ht : t < n) (a c d l r q : Int) :
    Good (w.setCells g (t * 7) [.int .u64 a, .int .u64 (h t), .int .u64 c, .int .u64 d, .int .i32 l, .int .i32 r, .int .i32 q]) g h t ∧
    ∀ t', Good w g h t' → Good (w.setCells g (t * 7) [.int .u64 a, .int .u64 (h t), .int .u64 c, .int .u64 d, .int .i32 l, .int .i32 r, .int .i32 q]) g h t' := by
  have hsome : ∀ j, j < 7 → (w.cell? ⟨g, t * 7 + j, none⟩).isSome = true := by
    intro j hj
    obtain ⟨⟨_, _, _, _, _, _, _, c0, c1, c2, c3, c4, c5, c6⟩, _⟩ := hN t ht
    match j, hj with
    | 0, _ => rw [Nat.add_zero, c0]; rfl
    | 1, _ => rw [c1]; rfl
    | 2, _ => rw [c2]; rfl
    | 3, _ => rw [c3]; rfl
    | 4, _ => rw [c4]; rfl
    | 5, _ => rw [c5]; rfl
    | 6, _ => rw [c6]; rfl
  have hin := World.cell?_setCells_in g [.int .u64 a, .int .u64 (h t), .int .u64 c, .int .u64 d, .int .i32 l, .int .i32 r, .int .i32 q] (t * 7) w (by simpa using hsome)
  have h1 : Good (w.setCells g (t * 7) [.int .u64 a, .int .u64 (h t), .int .u64 c, .int .u64 d, .int .i32 l, .int .i32 r, .int .i32 q]) g h t := hin 1 (by simp)
  refine ⟨h1, fun t' hg => ?_⟩
  by_cases e : t' = t
  · subst e; exact h1
  · unfold Good
    rw [World.cell?_setCells_out _ _ _ _ _ (fun _ _ => by simp; omega)]
    exact hg

theorem BInv.setL {n B : Nat} {w0 : World} {gN gL gI : Nat} {w : World} (h : BInv n B w0 gN gL gI w) (hB : B ≤ gL) (h1 : gN ≠ gL) (h2 : gL ≠ gI) {t : Nat} (z : Int) : BInv n B w0 gN gL gI (w.setCell ⟨gL, t, none⟩ (.int .i64 z)) := by
  obtain ⟨hb, hN, hL, hI⟩ := h
  refine ⟨hb.setCell (p := ⟨gL, t, none⟩) hB _, fun t' ht' => ?_, fun i hi => ⟨?_, by simpa using (hL i hi).2⟩, fun i hi => ?_⟩
  · obtain ⟨⟨a, b, c, d, l, r, q, c0, c1, c2, c3, c4, c5, c6⟩, hf⟩ := hN t' ht'
    refine ⟨⟨a, b, c, d, l, r, q, ?_, ?_, ?_, ?_, ?_, ?_, ?_⟩, fun j hj => by simpa using hf j hj⟩
    all_goals
      rw [World.cell?_setCell_other _ _ _ _ (fun e => h1 (congrArg Addr.block e).symm)]
      assumption
  · by_cases e : i = t
    · subst e
      obtain ⟨z', hz⟩ := (hL i hi).1
      exact ⟨z, World.cell?_setCell_same _ _ _ hz⟩
    · rw [World.cell?_setCell_other _ _ _ _ (fun q => e (congrArg Addr.off q).symm)]; exact (hL i hi).1
  · refine ⟨?_, by simpa using (hI i hi).2⟩
    rw [World.cell?_setCell_other _ _ _ _ (fun q => h2 (congrArg Addr.block q))]; exact (hI i hi).1

theorem BInv.setI {n B : Nat} {w0 : World} {gN gL gI : Nat} {w : World} (h : BInv n B w0 gN gL gI w) (hB : B ≤ gI) (h1 : gN ≠ gI) (h2 : gL ≠ gI) {t : Nat} (z : Int) : BInv n B w0 gN gL gI (w.setCell ⟨gI, t, none⟩ (.int .i64 z)) := by
  have h' : BInv n B w0 gN gI gL w := ⟨h.1, h.2.1, h.2.2.2, h.2.2.1⟩
  have := h'.setL hB h1 (fun e => h2 e.symm) (t := t) z
  exact ⟨this.1, this.2.1, this.2.2.2, this.2.2.1⟩

theorem Good.other {w : World} {g g' : Nat} {h : Nat → Int} {t : Nat} (hg : Good w g h t) (hne : g ≠ g') (o : Nat) (u : Value) : Good (w.setCell ⟨g', o, none⟩ u) g h t := by
  unfold Good
  rw [World.cell?_setCell_other _ _ _ _ (fun q => hne (congrArg Addr.block q).symm)]
  exact hg
end Go.Proofs.Qxb6609258a
