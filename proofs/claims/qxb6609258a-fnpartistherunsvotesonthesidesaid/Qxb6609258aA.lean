import Derived.Test.Qxb6609258aRows
import Derived.WalkKit
import Derived.ProofKit
import Derived.WalkSpells
import Derived.WalkLawsBesides
import Derived.Below
import Derived.Deep.DeepCutAuto
import Derived.Deep.QuietTactic
import Derived.BigQuiet
namespace Go.Proofs.Qxb6609258a
open Go.ChangeShapes Go.WideShapes Go.ChangeAt Go.RowKit
set_option linter.unusedVariables false

theorem hid {p : Prop} (h : p) : Hid p := h

/-- Block g holds, cell by cell, the numbers f 0 .. f (n-1) of kind k; it may be written. -/
def KRow (k : IntKind) (w : World) (g n : Nat) (f : Nat → Int) : Prop :=
  g < w.heap.size ∧ ∀ i, i < n → w.cell? ⟨g, i, none⟩ = some (.int k (f i)) ∧ w.frozen? ⟨g, i, none⟩ = false

theorem KRow.of_block {k : IntKind} {w w' : World} {g n : Nat} {f : Nat → Int} (h : KRow k w g n f) (hs : w.heap.size ≤ w'.heap.size) (hb : w'.heap[g]? = w.heap[g]?) : KRow k w' g n f :=
  ⟨Nat.lt_of_lt_of_le h.1 hs, fun i hi => ⟨(World.cell?_of_block (w := w) (a := ⟨g, i, none⟩) hb).trans (h.2 i hi).1, (World.frozen?_of_block (w := w) (a := ⟨g, i, none⟩) hb).trans (h.2 i hi).2⟩⟩
theorem KRow.below {k : IntKind} {w w' : World} {g n : Nat} {f : Nat → Int} (h : KRow k w g n f) (hb : Below w.heap.size w w') : KRow k w' g n f := h.of_block hb.size (hb.block g h.1)
theorem KRow.setOther {k : IntKind} {w : World} {g n : Nat} {f : Nat → Int} (h : KRow k w g n f) {a : Addr} (ha : a.block ≠ g) (u : Value) : KRow k (w.setCell a u) g n f :=
  h.of_block (by simp [World.setCell]) (Below.heap_setCell w a u g (fun e => ha e.symm))

def upd (f : Nat → Int) (i : Nat) (z : Int) : Nat → Int := fun j => if j = i then z else f j

theorem KRow.set {k : IntKind} {w : World} {g n : Nat} {f : Nat → Int} (h : KRow k w g n f) (i : Nat) (z : Int) (hi : i < n) : KRow k (w.setCell ⟨g, i, none⟩ (.int k z)) g n (upd f i z) := by
  refine ⟨by simpa [World.setCell] using h.1, fun j hj => ⟨?_, by simpa using (h.2 j hj).2⟩⟩
  by_cases e : j = i
  · subst e
    rw [World.cell?_setCell_same w ⟨g, j, none⟩ _ (h.2 j hj).1]; simp [upd]
  · rw [World.cell?_setCell_other w ⟨g, i, none⟩ ⟨g, j, none⟩ _ (fun q => e (congrArg Addr.off q).symm), (h.2 j hj).1]; simp [upd, e]

theorem KRow.made {k : IntKind} {w : World} {T : TypeId} {g n : Nat} (h : w.ownsRow 0 T 1 (.slice (some ⟨g, 0, none⟩) n n) n (madeCells (Value.int k 0).cells (n * 1)).toList) : KRow k w g n (fun _ => 0) := by
  have hc : (Value.int k 0).cells = #[.int k 0] := rfl
  rw [hc, Nat.mul_one, toList_madeCells_one] at h
  refine ⟨(h.lt g rfl).2, fun i hi => ⟨?_, h.frozenAt i⟩⟩
  rw [h.cellAt i (by omega)]
  simp [hi]

theorem info38 : (Try.prog.info? 38).map (fun i => (i.zero, i.size, i.bytes)) = some (some (.int .u64 0), 1, 8) := by kernel_rfl
theorem info3 : (Try.prog.info? 3).map (fun i => (i.zero, i.size, i.bytes)) = some (some (.int .i64 0), 1, 8) := by kernel_rfl

/-- The span order: by highest slot, then by number. -/
def lt (h : Nat → Int) (i j : Nat) : Bool := decide (h i < h j ∨ (h i = h j ∧ i < j))

theorem lt_pos {h : Nat → Int} {i j : Nat} (c : h i < h j ∨ (h i = h j ∧ i < j)) : lt h i j = true := by simp [lt, c]
theorem lt_neg {h : Nat → Int} {i j : Nat} (c : ¬ (h i < h j ∨ (h i = h j ∧ i < j))) : lt h i j = false := by simp [lt]; simpa using c

set_option maxHeartbeats 1000000 in
/-- zzLess. -/
theorem less_any (g n i j : Nat) (h : Nat → Int) (hn : n ≤ 4096) (hi : i < n) (hj : j < n) (w : World) (hr : KRow .u64 w g n h) :
    Calls Try.prog 13 #[.slice (some ⟨g, 0, none⟩) n n, .int .i64 i, .int .i64 j] w fun e w' => e = .returned (.bool (lt h i j)) ∧ ∃ q, w' = w.drewN q := by
  have c1 := (hr.2 i hi).1
  have c2 := (hr.2 j hj).1
  clear hr
  have i0 : (0 : Int) ≤ (i : Int) := by omega
  have i1 : (i : Int) < (n : Int) := by omega
  have j0 : (0 : Int) ≤ (j : Int) := by omega
  have j1 : (j : Int) < (n : Int) := by omega
  by_cases h1 : h i < h j
  · have HE := hid (lt_pos (h := h) (i := i) (j := j) (.inl h1))
    generalize h i = a at *
    generalize h j = b at *
    generalize lt h i j = t at *
    have hd : decide (a < b) = true := by simp; omega
    go_enter Try.func13, Try.ntmps13
    go_wp2
    go_quiet (fail)
    go_wp2
    go_ret
    exact ⟨by rw [HE.out]; rfl, _, rfl⟩
  · by_cases h2 : h i = h j
    · by_cases h3 : i < j
      · have HE := hid (lt_pos (h := h) (i := i) (j := j) (.inr ⟨h2, h3⟩))
        rw [h2] at c1
        clear h1 h2
        generalize h j = b at *
        generalize lt h i j = t at *
        have hd : decide (b < b) = false := by simp
        have he : (b == b) = true := by simp
        go_enter Try.func13, Try.ntmps13
        go_wp2
        go_quiet (fail)
        go_wp2
        go_ret
        exact ⟨by rw [HE.out]; rfl, _, rfl⟩
      · have HE := hid (lt_neg (h := h) (i := i) (j := j) (by omega))
        rw [h2] at c1
        clear h1 h2
        generalize h j = b at *
        generalize lt h i j = t at *
        have hd : decide (b < b) = false := by simp
        have he : (b == b) = true := by simp
        have hl : decide ((i : Int) < (j : Int)) = false := by simp; omega
        have hl' : decide (i < j) = false := by simp; omega
        go_enter Try.func13, Try.ntmps13
        go_wp2
        go_quiet (fail)
        go_wp2
        go_ret
        exact ⟨by rw [HE.out]; rfl, _, rfl⟩
    · have HE := hid (lt_neg (h := h) (i := i) (j := j) (by omega))
      generalize h i = a at *
      generalize h j = b at *
      generalize lt h i j = t at *
      have hd : decide (a < b) = false := by simp; omega
      have he : (a == b) = false := by simp; omega
      clear h2
      go_enter Try.func13, Try.ntmps13
      go_wp2
      go_quiet (fail)
      go_wp2
      go_ret
      exact ⟨by rw [HE.out]; rfl, _, rfl⟩

/-- The spans that came in. -/
def Sp (w : World) (a : Option Addr) (n : Nat) (fl h : Nat → Int) : Prop :=
  ∃ b off, a = some ⟨b, off, none⟩ ∧ b < w.heap.size ∧ ∀ i, i < n → w.cell? ⟨b, off + i * 2, none⟩ = some (.int .u64 (fl i)) ∧ w.cell? ⟨b, off + i * 2 + 1, none⟩ = some (.int .u64 (h i))

theorem Sp.below {w w' : World} {a : Option Addr} {n : Nat} {fl h : Nat → Int} (s : Sp w a n fl h) (hb : Below w.heap.size w w') : Sp w' a n fl h := by
  obtain ⟨b, off, rfl, hl, hc⟩ := s
  exact ⟨b, off, rfl, Nat.lt_of_lt_of_le hl hb.size, fun i hi => ⟨(hb.cell (p := ⟨b, off + i * 2, none⟩) hl).trans (hc i hi).1, (hb.cell (p := ⟨b, off + i * 2 + 1, none⟩) hl).trans (hc i hi).2⟩⟩

/-- The first k numbers of f are those of h. -/
def Agree (f h : Nat → Int) (k : Nat) : Prop := ∀ i, i < k → f i = h i
theorem Agree.step {f h : Nat → Int} {k : Nat} (a : Agree f h k) : Agree (upd f k (h k)) h (k + 1) := by
  intro i hi
  by_cases e : i = k
  · subst e; simp [upd]
  · simp only [upd, if_neg e]; exact a i (by omega)
theorem KRow.congr {k : IntKind} {w : World} {g n : Nat} {f h : Nat → Int} (r : KRow k w g n f) (a : Agree f h n) : KRow k w g n h := ⟨r.1, fun i hi => by rw [← a i hi]; exact r.2 i hi⟩

set_option maxHeartbeats 1000000 in
/-- zzSplitSpans: two rows in new blocks. -/
theorem split_any (a : Option Addr) (n c : Nat) (fl h : Nat → Int) (hn : n ≤ 4096) (w : World) (hs : Sp w a n fl h) :
    Calls Try.prog 8 #[.slice a n c] w fun e w' => ∃ gF gH, e = .returned (.tuple #[.slice (some ⟨gF, 0, none⟩) n n, .slice (some ⟨gH, 0, none⟩) n n]) ∧ w.heap.size ≤ gF ∧ gF < gH ∧
      KRow .u64 w' gF n fl ∧ KRow .u64 w' gH n h ∧ Below w.heap.size w w' := by
  have HS := hid hs
  clear hs
  obtain ⟨i0, hi, hz0, hz1, hz2⟩ := info_parts info38
  go_enter Try.func8, Try.ntmps8
  go_wp2_with (first | (at_make; refine wpList_make_full _ rfl (.tmp 8) (.tmp 8) 25 rfl 0 38 i0 (.int .u64 0) 1 Try.underlying25 hi hz0 hz1 .i64 .i64 _ _ n rfl rfl (by omega) (by omega) (by rw [hz2]; omega) (by unfold maxLen; omega) (Nat.zero_le _) ?_; intro w1 hown1 hgrow1) | (at_make; refine wpList_make_full _ rfl (.tmp 11) (.tmp 11) 25 rfl 0 38 i0 (.int .u64 0) 1 Try.underlying25 hi hz0 hz1 .i64 .i64 _ _ n rfl rfl (by omega) (by omega) (by rw [hz2]; omega) (by unfold maxLen; omega) (Nat.zero_le _) ?_; intro w2 hown2 hgrow2))
  have hb1 : Below w.heap.size w w1 := (Below.refl _ w).grown hgrow1 (Nat.le_refl _) (by intro k h; cases h)
  have hb2 : Below w1.heap.size w1 w2 := (Below.refl _ w1).grown hgrow2 (Nat.le_refl _) (by intro k h; cases h)
  have r1 : KRow .u64 w1 w.heap.size n (fun _ => 0) := KRow.made hown1
  have r2 : KRow .u64 w2 w1.heap.size n (fun _ => 0) := KRow.made hown2
  have R1 := hid (r1.below hb2)
  have R2 := hid r2
  have hlt : w.heap.size < w1.heap.size := r1.1
  have HB : Hid (Below w.heap.size w w2) := hb1.trans (hb2.mono hb1.size)
  clear hown1 hown2 hgrow1 hgrow2 hb1 hb2 r1 r2 hi hz0 hz1 hz2
  go_loopw [6] (fun i wr => ∃ (k : Nat) (f1 f2 : Nat → Int), k ≤ n ∧ i = .int .i64 k ∧ Hid (KRow .u64 wr w.heap.size n f1 ∧ Agree f1 fl k) ∧ Hid (KRow .u64 wr w1.heap.size n f2 ∧ Agree f2 h k) ∧ Hid (Below w.heap.size w wr)) (fun i _ => n - (intOf i).toNat)
  case atStart => exact ⟨0, _, _, Nat.zero_le _, rfl, ⟨R1.out, fun i hi => absurd hi (by omega)⟩, ⟨R2.out, fun i hi => absurd hi (by omega)⟩, HB⟩
  case round =>
    obtain ⟨k, f1, f2, hk, rfl, HR1, HR2, HBr⟩ := hrel
    by_cases hlt2 : k < n
    · obtain ⟨b, off, hx, hbl, hc⟩ := Sp.below HS.out HBr.out
      subst hx
      obtain ⟨ca, cb⟩ := hc k hlt2
      have hbw : b < w.heap.size := by
        obtain ⟨b', off', hx', hbl', _⟩ := HS.out
        simp only [Option.some.injEq, Addr.mk.injEq] at hx'
        rw [hx'.1]; exact hbl'
      obtain ⟨d1, e1⟩ := HR1.out.1.2 k hlt2
      obtain ⟨d2, e2⟩ := HR2.out.1.2 k hlt2
      have n1 : b ≠ w.heap.size := by omega
      have n1' : w.heap.size ≠ b := by omega
      have n2 : w.heap.size ≠ w1.heap.size := by omega
      have RA : Hid (KRow .u64 ((wr.setCell ⟨w.heap.size, k, none⟩ (.int .u64 (fl k))).setCell ⟨w1.heap.size, k, none⟩ (.int .u64 (h k))) w.heap.size n (upd f1 k (fl k)) ∧ Agree (upd f1 k (fl k)) fl (k + 1)) :=
        ⟨(HR1.out.1.set k (fl k) hlt2).setOther (a := ⟨w1.heap.size, k, none⟩) (fun q => n2 q.symm) _, HR1.out.2.step⟩
      have RB : Hid (KRow .u64 ((wr.setCell ⟨w.heap.size, k, none⟩ (.int .u64 (fl k))).setCell ⟨w1.heap.size, k, none⟩ (.int .u64 (h k))) w1.heap.size n (upd f2 k (h k)) ∧ Agree (upd f2 k (h k)) h (k + 1)) :=
        ⟨(HR2.out.1.setOther (a := ⟨w.heap.size, k, none⟩) n2 _).set k (h k) hlt2, HR2.out.2.step⟩
      have RC : Hid (Below w.heap.size w ((wr.setCell ⟨w.heap.size, k, none⟩ (.int .u64 (fl k))).setCell ⟨w1.heap.size, k, none⟩ (.int .u64 (h k)))) :=
        (HBr.out.setCell (p := ⟨w.heap.size, k, none⟩) (Nat.le_refl _) _).setCell (p := ⟨w1.heap.size, k, none⟩) (Nat.le_of_lt hlt) _
      clear hc
      generalize fl k = y1 at *
      generalize h k = y2 at *
      go_wp2
      go_roundw
      case rel => exact ⟨k + 1, _, _, by omega, by go_num, RA, RB, RC⟩
      case measure => simp [intOf]; omega
    · have HF : Hid (∃ gF gH, Ending.returned (.tuple #[.slice (some ⟨w.heap.size, 0, none⟩) n n, .slice (some ⟨w1.heap.size, 0, none⟩) n n]) = .returned (.tuple #[.slice (some ⟨gF, 0, none⟩) n n, .slice (some ⟨gH, 0, none⟩) n n]) ∧ w.heap.size ≤ gF ∧ gF < gH ∧ KRow .u64 wr gF n fl ∧ KRow .u64 wr gH n h ∧ Below w.heap.size w wr) := by
        have : k = n := by omega
        subst this
        exact ⟨_, _, rfl, Nat.le_refl _, hlt, HR1.out.1.congr HR1.out.2, HR2.out.1.congr HR2.out.2, HBr.out⟩
      clear HR1 HR2 HBr
      go_wp2
      go_ret2
      exact HF.out

def BytesEnd (w : World) (e : Ending) (w' : World) : Prop := ∃ t : Bool, e = .returned (.bool t) ∧ w' = w
theorem BytesEnd.mk (t : Bool) (w : World) (e : Ending) (he : e = .returned (.bool t)) : BytesEnd w e w := ⟨t, he, rfl⟩

theorem bytes6_any (a : Option Addr) (n c : Nat) (x y z : Int) (t : Bool) (w : World) (h : n ≤ maxLen) : Calls Try.prog 6 #[.slice a n c, .int .i32 x, .int .i32 y, .int .i32 z, .bool t] w (BytesEnd w) := by
  unfold maxLen at h
  go_enter Try.func6, Try.ntmps6
  go_wp2
  all_goals first
    | (go_ret; exact BytesEnd.mk false _ _ rfl)
    | (go_ret; exact BytesEnd.mk true _ _ rfl)

theorem bytes14_any (a : Option Addr) (n c : Nat) (x y z : Int) (w : World) (h : n ≤ maxLen) : Calls Try.prog 14 #[.slice a n c, .int .i32 x, .int .i32 y, .int .i32 z] w (BytesEnd w) := by
  unfold maxLen at h
  go_enter Try.func14, Try.ntmps14
  go_wp2
  all_goals first
    | (go_ret; exact BytesEnd.mk false _ _ rfl)
    | (go_ret; exact BytesEnd.mk true _ _ rfl)

/-- zzPartFits: if it says yes the three are places and the last does not lie before the first. -/
def FitsEnd (n : Nat) (h : Nat → Int) (x y z : Int) (w : World) (e : Ending) (w' : World) : Prop :=
  ∃ t : Bool, e = .returned (.bool t) ∧ (t = true → 0 ≤ x ∧ x < n ∧ 0 ≤ y ∧ y < n ∧ 0 ≤ z ∧ z < n ∧ lt h y.toNat x.toNat = false) ∧ Below w.heap.size w w'
theorem FitsEnd.no {n : Nat} {h : Nat → Int} {x y z : Int} {w : World} {e : Ending} {w' : World} (he : e = .returned (.bool false)) (hb : Below w.heap.size w w') : FitsEnd n h x y z w e w' := ⟨false, he, by simp, hb⟩

set_option maxHeartbeats 1000000 in
theorem fits_any (a : Option Addr) (n c : Nat) (fl h : Nat → Int) (x y z : Int) (hx : -2147483648 ≤ x ∧ x ≤ 2147483647) (hy : -2147483648 ≤ y ∧ y ≤ 2147483647) (hz : -2147483648 ≤ z ∧ z ≤ 2147483647) (hn : n ≤ 4096) (w : World) (hs : 0 < n → Sp w a n fl h) :
    Calls Try.prog 7 #[.slice a n c, .int .i32 x, .int .i32 y, .int .i32 z] w (FitsEnd n h x y z w) := by
  have HS := hid hs
  clear hs
  obtain ⟨hx1, hx2⟩ := hx
  obtain ⟨hy1, hy2⟩ := hy
  obtain ⟨hz1, hz2⟩ := hz
  by_cases cx : x < 0
  · have d1 : decide (x < 0) = true := by simp; omega
    go_enter Try.func7, Try.ntmps7
    go_wp2_with fail
    go_ret
    exact FitsEnd.no rfl (Below.refl _ _)
  have d1 : decide (x < 0) = false := by simp; omega
  by_cases cy : y < 0
  · have d2 : decide (y < 0) = true := by simp; omega
    go_enter Try.func7, Try.ntmps7
    go_wp2_with fail
    go_ret
    exact FitsEnd.no rfl (Below.refl _ _)
  have d2 : decide (y < 0) = false := by simp; omega
  by_cases cz : z < 0
  · have d3 : decide (z < 0) = true := by simp; omega
    go_enter Try.func7, Try.ntmps7
    go_wp2_with fail
    go_ret
    exact FitsEnd.no rfl (Below.refl _ _)
  have d3 : decide (z < 0) = false := by simp; omega
  obtain ⟨x, rfl⟩ : ∃ q : Nat, x = (q : Int) := ⟨x.toNat, by omega⟩
  obtain ⟨y, rfl⟩ : ∃ q : Nat, y = (q : Int) := ⟨y.toNat, by omega⟩
  obtain ⟨z, rfl⟩ : ∃ q : Nat, z = (q : Int) := ⟨z.toNat, by omega⟩
  clear d1 d2 d3 cx cy cz hx1 hy1 hz1
  by_cases ex : n ≤ x
  · have d1 : decide (n ≤ x) = true := by simp; omega
    go_enter Try.func7, Try.ntmps7
    go_wp2_with fail
    go_ret
    exact FitsEnd.no rfl (Below.refl _ _)
  have d1 : decide (n ≤ x) = false := by simp; omega
  by_cases ey : n ≤ y
  · have d2 : decide (n ≤ y) = true := by simp; omega
    go_enter Try.func7, Try.ntmps7
    go_wp2_with fail
    go_ret
    exact FitsEnd.no rfl (Below.refl _ _)
  have d2 : decide (n ≤ y) = false := by simp; omega
  by_cases ez : n ≤ z
  · have d3 : decide (n ≤ z) = true := by simp; omega
    go_enter Try.func7, Try.ntmps7
    go_wp2_with fail
    go_ret
    exact FitsEnd.no rfl (Below.refl _ _)
  have d3 : decide (n ≤ z) = false := by simp; omega
  go_enter Try.func7, Try.ntmps7
  go_wp2_with fail
  refine (split_any a n c fl h hn w (HS.out (by omega))).mono ?_
  rintro e w1 ⟨gF, gH, rfl, hg1, hg2, r1, r2, hb⟩
  have R2 := hid r2
  have HB := hid hb
  clear r1 r2 hb
  go_wp2_with fail
  refine (less_any gH n y x h hn (by omega) (by omega) w1 R2.out).mono ?_
  rintro e w2 ⟨rfl, q, rfl⟩
  cases hlt : lt h y x
  · have HF : Hid (FitsEnd n h x y z w (.returned (.bool true)) (w1.drewN q)) := ⟨true, rfl, fun _ => ⟨by omega, by omega, by omega, by omega, by omega, by omega, by simpa using hlt⟩, below_drewN HB.out _⟩
    clear hlt
    go_wp2_with fail
    go_ret
    exact HF.out
  · have HF : Hid (FitsEnd n h x y z w (.returned (.bool false)) (w1.drewN q)) := FitsEnd.no rfl (below_drewN HB.out _)
    clear hlt
    go_wp2_with fail
    go_ret
    exact HF.out
end Go.Proofs.Qxb6609258a
