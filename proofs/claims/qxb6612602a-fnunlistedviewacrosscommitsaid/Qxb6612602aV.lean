import Derived.Test.Qxb6612602aU
import Derived.Conc.MuLone
import Derived.Conc.MuData
import Derived.Conc.RwLib
import Derived.Defers
import Derived.Deep.RegionHeld3
import Derived.Deep.DrawnRows
import Derived.Maps.AppendAt
namespace Go.Proofs.Qxb6612602a
open Go.ChangeShapes Go.WideShapes Go.ChangeAt Go.RowKit
set_option linter.unusedVariables false
namespace U

theorem own_of_row {w : World} {v : Value} {n : Nat} {xs : List Int} {g : Nat} (h : w.ownsRow 0 27 1 v n (xs.map (Value.int .u64))) (hg : v.ownBlock = some g) (hn : n = xs.length) : Own w g v xs := by
  subst hn
  rcases h.2 with ⟨rfl, _⟩ | ⟨g', cap, cur, rfl, r⟩
  · simp [Value.ownBlock] at hg
  · simp only [Value.ownBlock, Option.some.injEq] at hg
    subst hg
    exact .inr ⟨cap, rfl, h⟩

set_option maxHeartbeats 400000 in
/-- slices.Clone: a copy in a block of its own (nil of nil). -/
theorem sclone_any (a : Option Addr) (xs : List Int) (cap : Nat) (hlen : xs.length ≤ 1048577) (w : World) (h : Rd w a xs) (hn : a = none → xs = []) :
    Calls Try.prog 26 #[.slice a xs.length cap] w fun e w' => ∃ g a' c', e = .returned (.slice a' xs.length c') ∧ Own w' g (.slice a' xs.length c') xs ∧ w.heap.size ≤ g ∧ Below w.heap.size w w' := by
  have hnil := fun (w : World) (a : Option Addr) (n c : Nat) => Lib.run_eql_slice_nil (P := Try.prog) w 26 27 a n c 0 0 Try.underlying26
  cases a with
  | none =>
    have := hn rfl
    subst this
    go_enter Try.func26, Try.ntmps26
    go_wp2
    go_ret
    exact ⟨w.heap.size, _, _, rfl, .inl ⟨rfl, rfl⟩, Nat.le_refl _, Below.refl _ _⟩
  | some x =>
    have hnews : Hid (∀ j u, (xs.map (Value.int .u64))[j]? = some u → (w.alloc (.cells #[] 27)).cell? (x.add j) = some u) := by
      intro j u hj
      have hjl : j < xs.length := by
        have := (List.getElem?_eq_some_iff.1 hj).1
        simpa using this
      obtain ⟨b, off, hx, hbl, hc⟩ := h (by omega)
      simp only [Option.some.injEq] at hx
      subst hx
      have hb1 : Below w.heap.size w (w.alloc (.cells #[] 27)) := (Below.refl _ _).alloc (Nat.le_refl _) _
      rw [add_plain, hb1.cell (p := ⟨b, off + j, none⟩) hbl, hc j hjl, ← hj, getD_map xs j hjl]
    have h1 : Hid (∀ u ∈ xs.map (Value.int .u64), u.oneCell' = true) := by
      intro u hu
      simp only [List.mem_map] at hu
      obtain ⟨z, _, rfl⟩ := hu
      rfl
    have hown0 : Hid ((w.alloc (.cells #[] 27)).ownsRow 0 27 1 (.slice (some ⟨w.heap.size, 0, none⟩) 0 0) 0 []) := World.ownsRow_lit w #[] 0 (Nat.zero_le _) (Nat.zero_le _) rfl
    have hlm : Hid ((xs.map (Value.int .u64)).length = xs.length * 1) := by simp [Hid]
    clear h hn
    generalize hl : xs.length = len at *
    have HL := hid hl
    clear hl
    obtain ⟨i0, hi, hz0, hz1, hz2⟩ := info_parts info27
    go_enter Try.func26, Try.ntmps26
    go_wp2_with (at_builtin; refine wpList_append_own_at _ rfl (.tmp 5) (.tmp 6) 26 rfl 0 27 i0 (.int .u64 0) 1 8 Try.underlying26 hi hz0 hz1 hz2 rfl (by decide) _ 0 [] rfl hown0.out x len cap (xs.map (Value.int .u64)) rfl hlm.out hnews.out h1.out (by unfold maxLen; omega) (by omega) (Nat.zero_le _) ?_; intro v' w1 hown hgrow hniff hat)
    have hb1 : Below w.heap.size w w1 := by
      refine ((Below.refl _ w).alloc (Nat.le_refl _) _).grown hgrow (by simp) ?_
      intro k hk
      have e : w.heap.size = k := Option.some.inj hk
      exact Nat.le_of_eq e
    obtain ⟨g, hg, hge⟩ : ∃ g, v'.ownBlock = some g ∧ w.heap.size ≤ g := by
      rcases hat with h | h
      · exact ⟨w.heap.size, by rw [h]; rfl, Nat.le_refl _⟩
      · exact ⟨_, h, by simp⟩
    simp only [Nat.zero_add, List.nil_append] at hown
    have hO : Own w1 g v' xs := own_of_row hown hg HL.out.symm
    have hsh : ∃ a' c', v' = .slice a' len c' := by
      rcases hO with ⟨rfl, rfl⟩ | ⟨c, rfl, _⟩
      · simp [Value.ownBlock] at hg
      · exact ⟨_, c, by rw [HL.out]⟩
    obtain ⟨a', c', hv⟩ := hsh
    subst hv
    have HO := hid hO
    clear hown hgrow hniff hat hg hi hz0 hz1 hz2 hO
    go_wp2
    go_ret
    exact ⟨g, _, _, rfl, HO.out, hge, hb1⟩

theorem sclone_len {a : Option Addr} {xs : List Int} {cap len : Nat} (hl : xs.length = len) (hlen : len ≤ 1048577) (w : World) (h : Rd w a xs) (hn : a = none → xs = []) :
    Calls Try.prog 26 #[.slice a len cap] w fun e w' => ∃ g a' c', e = .returned (.slice a' len c') ∧ Hid (Own w' g (.slice a' len c') xs) ∧ w.heap.size ≤ g ∧ Below w.heap.size w w' := by
  subst hl
  exact sclone_any a xs cap hlen w h hn

attribute [local go_sem ↓] Go.wp_at_zero Go.wp_at_succ

/-- While a view is made: the registry's fields, its list, and that nothing old has turned. -/
def Vr (w : World) (R : Nat) (a : Option Addr) (n c : Nat) (xs : List Int) (next com : Int) (W : World) : Prop :=
  R < W.heap.size ∧ W.cell? ⟨R, 5, none⟩ = some (.slice a n c) ∧ W.cell? ⟨R, 4, none⟩ = some (.int .u64 next) ∧ W.cell? ⟨R, 7, none⟩ = some (.int .u64 com) ∧ Rd W a xs ∧ Below w.heap.size w W

theorem Vr.keep {w : World} {R : Nat} {a : Option Addr} {n c : Nat} {xs : List Int} {next com : Int} {W W' : World} (hb : Below W.heap.size W W') (h : Hid (Vr w R a n c xs next com W)) :
    W'.cell? ⟨R, 5, none⟩ = some (.slice a n c) ∧ W'.cell? ⟨R, 4, none⟩ = some (.int .u64 next) ∧ W'.cell? ⟨R, 7, none⟩ = some (.int .u64 com) ∧ Hid (Vr w R a n c xs next com W') := by
  obtain ⟨h0, h1, h2, h3, h4, h5⟩ := h.out
  have e1 := (hb.cell (p := ⟨R, 5, none⟩) h0).trans h1
  have e2 := (hb.cell (p := ⟨R, 4, none⟩) h0).trans h2
  have e3 := (hb.cell (p := ⟨R, 7, none⟩) h0).trans h3
  exact ⟨e1, e2, e3, Nat.lt_of_lt_of_le h0 hb.size, e1, e2, e3, h4.below hb, h5.trans (hb.mono h5.size)⟩
theorem Vr.rd {w : World} {R : Nat} {a : Option Addr} {n c : Nat} {xs : List Int} {next com : Int} {W : World} (h : Hid (Vr w R a n c xs next com W)) : Rd W a xs := h.out.2.2.2.2.1
theorem Vr.bel {w : World} {R : Nat} {a : Option Addr} {n c : Nat} {xs : List Int} {next com : Int} {W : World} (h : Hid (Vr w R a n c xs next com W)) : Below w.heap.size w W := h.out.2.2.2.2.2

/-- What making a view comes to: a view V in a new block, its list a copy in a new block g. -/
def MvEnd (w : World) (xs : List Int) (next com : Int) (e : Ending) (w' : World) : Prop :=
  ∃ (g V : Nat) (a' : Option Addr) (c' : Nat), e = .returned (.pointer (some ⟨V, 0, none⟩)) ∧ Own w' g (.slice a' xs.length c') xs ∧ w.heap.size ≤ g ∧ w.heap.size ≤ V ∧
    w'.heap[V]? = some (.cells #[.slice a' xs.length c', .int .u64 (xs.getD 0 next), .int .u64 next, .int .u64 com, .pointer none] 65 (0, 0)) ∧ Below w.heap.size w w'

theorem Own.rdAt {w : World} {v : Value} {xs : List Int} (h : ∃ a c, v = .slice a xs.length c ∧ Rd w a xs ∧ (a = none → xs = [])) {a' : Option Addr} {len c' : Nat} (hv : v = .slice a' len c') (h0 : 0 < xs.length) :
    ∃ b off, a' = some ⟨b, off, none⟩ ∧ b < w.heap.size ∧ ∀ i, i < xs.length → w.cell? ⟨b, off + i, none⟩ = some (.int .u64 (xs.getD i 0)) := by
  obtain ⟨a, c, rfl, hr, _⟩ := h
  simp only [Value.slice.injEq] at hv
  obtain ⟨rfl, _, _⟩ := hv
  exact hr h0

set_option maxHeartbeats 1000000 in
theorem makeView_any (R : Nat) (a : Option Addr) (c : Nat) (xs : List Int) (next com : Int) (hlen : xs.length ≤ 1048577) (w : World) (h : Vr w R a xs.length c xs next com w) (hn : a = none → xs = []) :
    Calls Try.prog 23 #[.pointer (some ⟨R, 0, none⟩)] w (MvEnd w xs next com) := by
  have HV := hid h
  have HN := hid hn
  clear h hn
  generalize hl : xs.length = len at *
  have HL := hid hl
  clear hl
  go_enter Try.func23, Try.ntmps23
  go_wp2
  go_region_held3 (fun W => W.cell? ⟨R, 5, none⟩ = some (.slice a len c) ∧ W.cell? ⟨R, 4, none⟩ = some (.int .u64 next) ∧ W.cell? ⟨R, 7, none⟩ = some (.int .u64 com) ∧ Hid (Vr w R a len c xs next com W)) (first | exact Vr.keep (Below.refl _ _).drew HV | (go_split_ands; exact Vr.keep hb2 (by assumption)) | (go_split_ands; exact Vr.keep ((Below.refl _ _).alloc (Nat.le_refl _) _) (by assumption))) (first | (go_at_call 26; refine (sclone_len HL.out hlen _ (by go_split_ands; exact Vr.rd (by assumption)) HN.out).mono ?_; rintro e w2 ⟨g, a', c', rfl, hO2, hge, hb2⟩))
  rename_i hHeld
  have hb1 : Below w.heap.size w w2 := by
    have h1 : Below w.heap.size w w.drew := (Below.refl _ _).drew
    exact h1.trans (hb2.mono (Nat.le_refl _))
  clear hHeld hb2
  have hge' : w.heap.size ≤ g := hge
  have hsz : w.heap.size ≤ w2.heap.size := hb1.size
  have hl := HL.out
  by_cases h0 : len = 0
  · have HE : Hid (MvEnd w xs next com (.returned (.pointer (some ⟨w2.heap.size, 0, none⟩))) (w2.alloc (.cells #[.slice a' len c', .int .u64 next, .int .u64 next, .int .u64 com, .pointer none] 65))) := by
      refine ⟨g, w2.heap.size, a', c', rfl, ?_, hge', hsz, ?_, hb1.alloc hsz _⟩
      · rw [hl]; exact hO2.out.below ((Below.refl _ _).alloc (Nat.le_refl _) _)
      · rw [hl, heap_alloc_new]
        have : xs = [] := List.eq_nil_of_length_eq_zero (by omega)
        subst this
        rfl
    clear hl hO2
    subst h0
    go_wp2
    go_ret
    exact HE.out
  · obtain ⟨b, off, ha', hbl, hc⟩ := Own.rdAt (Own.rd hO2.out) rfl (by omega)
    subst ha'
    have hc0 := hc 0 (by omega)
    have hgoff : b < w2.heap.size := hbl
    have HE : Hid (MvEnd w xs next com (.returned (.pointer (some ⟨w2.heap.size, 0, none⟩))) (w2.alloc (.cells #[.slice (some ⟨b, off, none⟩) len c', .int .u64 (xs.getD 0 0), .int .u64 next, .int .u64 com, .pointer none] 65))) := by
      refine ⟨g, w2.heap.size, some ⟨b, off, none⟩, c', rfl, ?_, hge', hsz, ?_, hb1.alloc hsz _⟩
      · rw [hl]; exact hO2.out.below ((Below.refl _ _).alloc (Nat.le_refl _) _)
      · rw [hl, heap_alloc_new]
        have : xs.getD 0 next = xs.getD 0 0 := by
          have : 0 < xs.length := by omega
          simp [List.getD, List.getElem?_eq_getElem this]
        rw [this]
    have hpos : 0 < len := by omega
    have hcA : w2.cell? ⟨b, off, none⟩ = some (.int .u64 (xs.getD 0 0)) := by simpa using hc0
    clear hl hO2 hc hc0 h0
    generalize xs.getD 0 0 = y at *
    go_wp2
    go_ret
    exact HE.out
end U
end Go.Proofs.Qxb6612602a
