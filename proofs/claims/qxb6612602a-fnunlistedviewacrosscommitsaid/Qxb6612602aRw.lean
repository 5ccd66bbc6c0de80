import Derived.Test.Qxb6612602aX
namespace Go.Proofs.Qxb6612602a
open Go.ChangeShapes Go.WideShapes Go.ChangeAt Go.RowKit
set_option linter.unusedVariables false
namespace U

/-! ### Rows of the law's own: filled step by step; written in place -/
/-- The row at the head of block g, len cells: the first k are those of xs. -/
def Part (w : World) (g len : Nat) (xs : List Int) (k : Nat) : Prop :=
  ∃ zs, w.ownsRow 0 27 1 (.slice (some ⟨g, 0, none⟩) len len) len zs ∧ ∀ i, i < k → zs[i]? = some (.int .u64 (xs.getD i 0))

theorem Part.start {w : World} {g len : Nat} {xs : List Int} {zs : List Value} (h : w.ownsRow 0 27 1 (.slice (some ⟨g, 0, none⟩) len len) len zs) : Part w g len xs 0 := ⟨zs, h, fun i hi => absurd hi (by omega)⟩

theorem Part.step {w : World} {g len : Nat} {xs : List Int} {k : Nat} (h : Part w g len xs k) (hk : k < len) (y : Int) (hy : y = xs.getD k 0) :
    (∃ u, w.cell? ⟨g, k, none⟩ = some u) ∧ w.frozen? ⟨g, k, none⟩ = false ∧ Part (w.setCell ⟨g, k, none⟩ (.int .u64 y)) g len xs (k + 1) := by
  obtain ⟨zs, hown, hz⟩ := h
  have hxl : k < zs.length := by rw [hown.1]; omega
  have hat := hown.cellAt k (by omega)
  rw [List.getElem?_eq_getElem hxl] at hat
  refine ⟨⟨_, hat⟩, hown.frozenAt k, _, (hown.stored k (.int .u64 y)).1, fun i hi => ?_⟩
  by_cases e : i = k
  · subst e; rw [List.getElem?_set_self hxl, hy]
  · rw [List.getElem?_set_ne (by omega)]; exact hz i (by omega)

theorem Part.full {w : World} {g len : Nat} {xs : List Int} (h : Part w g len xs len) (hl : xs.length = len) : Own w g (.slice (some ⟨g, 0, none⟩) len len) xs := by
  obtain ⟨zs, hown, hz⟩ := h
  have hzs : zs = xs.map (Value.int .u64) := by
    apply List.ext_getElem?
    intro i
    by_cases hi : i < len
    · rw [hz i hi, getD_map xs i (by omega)]
    · rw [List.getElem?_eq_none (by rw [hown.1]; omega), List.getElem?_eq_none (by simp; omega)]
  subst hzs
  subst hl
  exact .inr ⟨_, rfl, hown⟩

theorem Part.below {w w' : World} {g len : Nat} {xs : List Int} {k : Nat} (h : Part w g len xs k) (hg : g < w.heap.size → w'.heap[g]? = w.heap[g]?) : Part w' g len xs k := by
  obtain ⟨zs, hown, hz⟩ := h
  refine ⟨zs, ⟨hown.1, ?_⟩, hz⟩
  rcases hown.2 with ⟨h, _⟩ | ⟨g', cap', cur, h, hg0, hgg, r⟩
  · simp at h
  · simp only [Value.slice.injEq, Option.some.injEq, Addr.mk.injEq, and_true, true_and] at h
    obtain ⟨rfl, rfl⟩ := h
    exact .inr ⟨g, len, cur, rfl, hg0, (hg (Array.getElem?_eq_some_iff.1 hgg).1).trans hgg, r⟩

theorem Part.lt {w : World} {g len : Nat} {xs : List Int} {k : Nat} (h : Part w g len xs k) : g < w.heap.size := by
  obtain ⟨zs, hown, hz⟩ := h
  exact (hown.lt g rfl).2

theorem Own.store {w : World} {g len c : Nat} {xs : List Int} {a : Option Addr} (h : Own w g (.slice a len c) xs) {k : Nat} (hk : k < xs.length) :
    a = some ⟨g, 0, none⟩ ∧ w.cell? ⟨g, k, none⟩ = some (.int .u64 (xs.getD k 0)) ∧ w.frozen? ⟨g, k, none⟩ = false ∧ ∀ z, Own (w.setCell ⟨g, k, none⟩ (.int .u64 z)) g (.slice a len c) (xs.set k z) := by
  rcases h with ⟨_, rfl⟩ | ⟨cap, hv, h⟩
  · simp at hk
  · simp only [Value.slice.injEq] at hv
    obtain ⟨rfl, rfl, rfl⟩ := hv
    refine ⟨rfl, ?_, h.frozenAt k, fun z => ?_⟩
    · rw [h.cellAt k (by omega)]; exact getD_map xs k hk
    · have := (h.stored k (.int .u64 z)).1
      refine .inr ⟨c, by simp, ?_⟩
      simpa [List.map_set] using this

/-- Only block g has turned. -/
structure Only (g : Nat) (w w' : World) : Prop where
  os : w'.os = w.os
  tape : w'.tape = w.tape
  output : w'.output = w.output
  size : w'.heap.size = w.heap.size
  block : ∀ k, k ≠ g → w'.heap[k]? = w.heap[k]?

theorem Only.refl (g : Nat) (w : World) : Only g w w := ⟨rfl, rfl, rfl, rfl, fun _ _ => rfl⟩
theorem Only.setCell {g : Nat} {a w : World} (h : Only g a w) (k : Nat) (u : Value) : Only g a (w.setCell ⟨g, k, none⟩ u) :=
  ⟨h.os, h.tape, h.output, by rw [← h.size]; simp [World.setCell], fun i hi => (Below.heap_setCell w ⟨g, k, none⟩ u i hi).trans (h.block i hi)⟩
theorem Only.drewN {g : Nat} {a w : World} (h : Only g a w) (n : Nat) : Only g a (w.drewN n) := ⟨h.os, h.tape, h.output, h.size, h.block⟩
theorem Only.below {g B : Nat} {w w' : World} (h : Only g w w') (hB : B ≤ g) : Below B w w' := ⟨h.os, h.tape, h.output, Nat.le_of_eq h.size.symm, fun k hk => h.block k (by omega)⟩
theorem Own.only {g g' : Nat} {w w' : World} {v : Value} {xs : List Int} (h : Own w g' v xs) (ho : Only g w w') (hne : g' ≠ g) : Own w' g' v xs := h.of_block fun _ => ho.block g' hne

theorem Own.drewN {w : World} {g : Nat} {v : Value} {xs : List Int} (h : Own w g v xs) (n : Nat) : Own (w.drewN n) g v xs := h.of_block fun _ => rfl
theorem Own.lt {w : World} {g : Nat} {a : Option Addr} {l c : Nat} {xs : List Int} (h : Own w g (.slice a l c) xs) (h0 : 0 < xs.length) : g < w.heap.size := by
  rcases h with ⟨_, rfl⟩ | ⟨cap, hv, h⟩
  · simp at h0
  · rw [hv] at h; exact (h.lt g rfl).2

theorem Own.shape {w : World} {g : Nat} {v : Value} {xs : List Int} (h : Own w g v xs) : ∃ a c, v = .slice a xs.length c := by
  obtain ⟨a, c, h, _⟩ := h.rd; exact ⟨a, c, h⟩
theorem Own.read {w : World} {g : Nat} {a : Option Addr} {l c : Nat} {xs : List Int} (h : Own w g (.slice a l c) xs) : Rd w a xs := by
  obtain ⟨a', c', hv, hr, _⟩ := h.rd
  simp only [Value.slice.injEq] at hv
  obtain ⟨rfl, _, _⟩ := hv
  exact hr
theorem Own.nilOf {w : World} {g : Nat} {a : Option Addr} {l c : Nat} {xs : List Int} (h : Own w g (.slice a l c) xs) : a = none → xs = [] := by
  obtain ⟨a', c', hv, _, hn⟩ := h.rd
  simp only [Value.slice.injEq] at hv
  obtain ⟨rfl, _, _⟩ := hv
  exact hn
theorem Own.len {w : World} {g : Nat} {a : Option Addr} {l c : Nat} {xs : List Int} (h : Own w g (.slice a l c) xs) : l = xs.length := by
  obtain ⟨a', c', hv, _, hn⟩ := h.rd
  simp only [Value.slice.injEq] at hv
  exact hv.2.1
/-- The list lies in block g alone. -/
theorem Own.apart {w : World} {g R : Nat} {a : Option Addr} {l c : Nat} {xs : List Int} (h : Own w g (.slice a l c) xs) (hne : g ≠ R) : ∀ b off, a = some ⟨b, off, none⟩ → b ≠ R := by
  intro b off ha
  rcases h with ⟨hv, _⟩ | ⟨cap, hv, _⟩
  · simp only [Value.slice.injEq] at hv
    rw [hv.1] at ha; cases ha
  · simp only [Value.slice.injEq] at hv
    rw [hv.1] at ha
    simp only [Option.some.injEq, Addr.mk.injEq] at ha
    rw [← ha.1]; exact hne

/-- What the walk is told of the slice that came in. -/
def IsRow (k : IntKind) (w : World) (a : Option Addr) (len cap : Nat) (zs : List Int) : Prop :=
  (a = none ∧ len = 0 ∧ cap = 0 ∧ zs = []) ∨
  ∃ x, a = some x ∧ len ≤ cap ∧ cap ≤ maxLen ∧ zs.length = cap ∧ (∀ i, i < zs.length → w.cell? (x.add i) = some (.int k (zs.getD i 0))) ∧ ∀ n ∈ zs, (Lit.int k n).wf = true

theorem IsRow.open {w : World} {a : Option Addr} {len cap : Nat} {zs : List Int} (h : IsRow .u64 w a len cap zs) : ∃ xs : List Int, xs.length = len ∧ len ≤ maxLen ∧ Rd w a xs ∧ (a = none → xs = []) := by
  rcases h with ⟨rfl, rfl, rfl, rfl⟩ | ⟨x, rfl, h1, h2, h3, hc, _⟩
  · exact ⟨[], rfl, Nat.zero_le _, fun h => by simp at h, fun _ => rfl⟩
  · refine ⟨zs.take len, by simp; omega, by omega, fun h0 => ?_, fun h => by cases h⟩
    have h0' : 0 < len := by simp at h0; omega
    have hsp : x.spot = none := by simpa [Addr.add] using World.cell?_spot (hc 0 (by omega))
    obtain ⟨b, off, spot⟩ := x
    simp only at hsp
    subst hsp
    refine ⟨b, off, rfl, ?_, fun i hi => ?_⟩
    · have := World.block_lt_of_cell? w _ (hc 0 (by omega))
      simpa [Addr.add] using this
    · have hi' : i < len := by simp at hi; omega
      rw [← add_plain, hc i (by omega)]
      simp [List.getD, hi']

/-! ### The plain law -/
theorem least_of_lt (xs : List Int) (m : Int) (h : ∀ x ∈ xs, m ≤ x) : least xs m = m := by
  induction xs with
  | nil => rfl
  | cons x xs ih =>
    unfold least
    rw [List.foldl_cons, if_neg (by have := h x (by simp); omega)]
    exact ih fun y hy => h y (by simp [hy])

theorem Asc.first_le {xs : List Int} {m : Int} (h : Asc xs m xs.length) : ∀ i, i < xs.length → xs.getD 0 0 ≤ xs.getD i 0 := by
  intro i
  induction i with
  | zero => intro _; exact Int.le_refl _
  | succ i ih =>
    intro hi
    have h1 := ih (by omega)
    have h2 := (h (i + 1) hi).2 (by omega)
    simp only [Nat.add_sub_cancel] at h2
    omega

/-- Of an ascending list below m the least is its head (m of none). -/
theorem least_asc {xs : List Int} {m : Int} (h : Asc xs m xs.length) : least xs m = xs.getD 0 m := by
  cases xs with
  | nil => rfl
  | cons x xs =>
    have h0 : x < m := by simpa using (h 0 (by simp)).1
    unfold least
    rw [List.foldl_cons, if_pos h0]
    have := least_of_lt xs x (fun y hy => ?_)
    · exact this
    · obtain ⟨i, hi, rfl⟩ := List.getElem_of_mem hy
      have := h.first_le (i + 1) (by simp; omega)
      simpa [List.getD, hi] using this
end U
end Go.Proofs.Qxb6612602a
