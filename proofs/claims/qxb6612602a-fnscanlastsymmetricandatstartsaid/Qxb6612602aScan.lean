import Derived.Test.Qxb6612602aRows
import Derived.WalkKit
import Derived.ProofKit
import Derived.WalkSpells
import Derived.WalkLawsBesides
import Derived.Below
import Derived.Laws.BytesArg
import Derived.Laws.CopyOwn
import Derived.Deep.DeepCutAuto
namespace Go.Proofs.Qxb6612602a
open Go.ChangeShapes Go.WideShapes Go.ChangeAt Go.RowKit
set_option linter.unusedVariables false

namespace Scan

/-- A slice of bytes that the call itself has made, or nil: what it holds. -/
def Own (w : World) (v : Value) (xs : List Int) : Prop :=
  (v = .slice none 0 0 ∧ xs = []) ∨ ∃ g, v = .slice (some ⟨g, 0, none⟩) xs.length xs.length ∧ g < w.heap.size ∧ ∀ i, i < xs.length → w.cell? ⟨g, 0 + i, none⟩ = some (.int .u8 (xs.getD i 0))

theorem Own.below {w w' : World} {v : Value} {xs : List Int} (h : Own w v xs) (hb : Below w.heap.size w w') : Own w' v xs := by
  rcases h with h | ⟨g, rfl, hg, hc⟩
  · exact .inl h
  · exact .inr ⟨g, rfl, Nat.lt_of_lt_of_le hg hb.size, fun i hi => (hb.cell (p := ⟨g, 0 + i, none⟩) hg).trans (hc i hi)⟩

theorem str_nil : strOfNums [] = ByteArray.empty := by
  simp [strOfNums, ByteArray.empty, ByteArray.emptyWithCapacity]
  rfl

theorem Own.conv {w : World} {v : Value} {xs : List Int} (h : Own w v xs) : (convert 22 9 v).run Try.prog w = .ok (.string (strOfNums xs)) w := by
  rcases h with ⟨rfl, rfl⟩ | ⟨g, rfl, hg, hc⟩
  · rw [str_nil]
    exact run_convert_bytes_nil w 22 5 Try.underlying22 Try.underlying5 0 0 9 Try.underlying9
  · exact run_convert_bytes_arg (P := Try.prog) w 22 5 Try.underlying22 Try.underlying5 g 0 xs.length xs.length xs rfl hc 9 Try.underlying9

set_option maxHeartbeats 400000 in
theorem equal_any (v u : Value) (xs ys : List Int) (w : World) (hv : Own w v xs) (hu : Own w u ys) :
    Calls Try.prog 20 #[v, u] w fun e w' => e = .returned (.bool ((strOfNums xs).toList == (strOfNums ys).toList)) ∧ w' = w := by
  have cv := hv.conv
  have cu := hu.conv
  clear hv hu
  go_enter Try.func20, Try.ntmps20
  go_wp2
  go_ret
  exact ⟨rfl, rfl⟩

/-- Do the two hold the same bytes? -/
def same (xs ys : List Int) : Bool := (strOfNums xs).toList == (strOfNums ys).toList
theorem same_self (xs : List Int) : same xs xs = true := by unfold same; simp
theorem same_swap (xs ys : List Int) : same xs ys = same ys xs := by
  unfold same
  rw [Bool.eq_iff_iff]
  simp only [beq_iff_eq]
  exact ⟨Eq.symm, Eq.symm⟩

set_option maxHeartbeats 400000 in
theorem last_any (a0 a1 a2 : Option Addr) (l0 c0 l1 c1 l2 c2 : Nat) (d : Bool) (xs ys : List Int) (w : World) (hv : Own w (.slice a0 l0 c0) xs) (hu : Own w (.slice a2 l2 c2) ys) :
    Calls Try.prog 18 #[.agg #[.slice a0 l0 c0, .slice a1 l1 c1, .bool d], .slice a2 l2 c2] w fun e w' => e = .returned (.bool (d && same ys xs)) ∧ Below w.heap.size w w' := by
  have hb : Below w.heap.size w (w.alloc (.cells #[.slice a0 l0 c0, .slice a1 l1 c1, .bool d] 42)) := (Below.refl _ _).alloc (Nat.le_refl _) _
  have Hv : Hid (Own (w.alloc (.cells #[.slice a0 l0 c0, .slice a1 l1 c1, .bool d] 42)) (.slice a0 l0 c0) xs) := hv.below hb
  have Hu : Hid (Own (w.alloc (.cells #[.slice a0 l0 c0, .slice a1 l1 c1, .bool d] 42)) (.slice a2 l2 c2) ys) := hu.below hb
  clear hv hu
  cases d
  · go_enter Try.func18, Try.ntmps18
    go_wp2_with fail
    go_ret
    exact ⟨rfl, hb⟩
  · go_enter Try.func18, Try.ntmps18
    go_wp2_with fail
    refine (equal_any _ _ ys xs _ Hu.out Hv.out).mono ?_
    rintro e w' ⟨rfl, rfl⟩
    go_wp2_with fail
    go_ret
    exact ⟨rfl, hb⟩

set_option maxHeartbeats 400000 in
theorem rangeLast_any (a0 a1 a2 : Option Addr) (l0 c0 l1 c1 l2 c2 : Nat) (d : Bool) (xs ys : List Int) (w : World) (hv : Own w (.slice a0 l0 c0) xs) (hu : Own w (.slice a2 l2 c2) ys) :
    Calls Try.prog 7 #[.slice a0 l0 c0, .slice a1 l1 c1, .bool d, .slice a2 l2 c2] w fun e w' => e = .returned (.bool (d && same ys xs)) ∧ Below w.heap.size w w' := by
  have Hv : Hid (Own w (.slice a0 l0 c0) xs) := hv
  have Hu : Hid (Own w (.slice a2 l2 c2) ys) := hu
  clear hv hu
  go_enter Try.func7, Try.ntmps7
  go_wp2_with fail
  refine (last_any _ _ _ _ _ _ _ _ _ _ xs ys _ Hv.out Hu.out).mono ?_
  rintro e w' ⟨rfl, hb⟩
  go_wp2_with fail
  go_ret
  exact ⟨rfl, hb⟩

theorem info5 : (Try.prog.info? 5).map (fun i => (i.zero, i.size, i.bytes)) = some (some (.int .u8 0), 1, 1) := by kernel_rfl
theorem size5 : (Try.prog.info? 5).map (·.size) = some 1 := by kernel_rfl

/-- What the round of the copy loop keeps: the first k cells of the new row are the source's. -/
theorem own_of_row {w : World} {g n : Nat} {xs : List Int} (hn : n = xs.length) (hg : g < w.heap.size) (hc : ∀ i, i < xs.length → w.cell? ⟨g, i, none⟩ = some (.int .u8 (xs.getD i 0))) : Own w (.slice (some ⟨g, 0, none⟩) n n) xs := by
  subst hn
  exact .inr ⟨g, rfl, hg, fun i hi => by rw [Nat.zero_add]; exact hc i hi⟩

set_option maxHeartbeats 400000 in
theorem clone_any (a : Option Addr) (len cap : Nat) (xs : List Int) (hlen : len ≤ 1048576) (w : World) (h : Own w (.slice a len cap) xs) :
    Calls Try.prog 8 #[.slice a len cap] w fun e w' => ∃ a' l' c', e = .returned (.slice a' l' c') ∧ Own w' (.slice a' l' c') xs ∧ Below w.heap.size w w' := by
  have hnil := fun (w : World) (a : Option Addr) (n c : Nat) => Lib.run_eql_slice_nil (P := Try.prog) w 22 5 a n c 0 0 Try.underlying22
  rcases h with ⟨h, rfl⟩ | ⟨b, h, hbl, hc⟩
  · simp only [Value.slice.injEq] at h
    obtain ⟨rfl, rfl, rfl⟩ := h
    go_enter Try.func8, Try.ntmps8
    go_wp2
    go_ret
    exact ⟨_, _, _, rfl, .inl ⟨rfl, rfl⟩, Below.refl _ _⟩
  · simp only [Value.slice.injEq] at h
    obtain ⟨rfl, hl, hl'⟩ := h
    subst hl'
    have HL : Hid (len = xs.length) := hl
    have HC : Hid (∀ i, i < xs.length → w.cell? ⟨b, 0 + i, none⟩ = some (.int .u8 (xs.getD i 0))) := hc
    clear hc hl
    obtain ⟨i0, hi, hz0, hz1, hz2⟩ := info_parts info5
    go_enter Try.func8, Try.ntmps8
    go_wp2_with (at_make; refine wpList_make_full _ rfl (.tmp 8) (.tmp 8) 22 rfl w.heap.size 5 i0 (.int .u8 0) 1 Try.underlying22 hi hz0 hz1 .i64 .i64 _ _ len rfl rfl (by omega) (by omega) (by rw [hz2]; omega) (by unfold maxLen; omega) (Nat.le_refl _) ?_; intro w1 hown hgrow)
    have hb1 : Below w.heap.size w w1 := (Below.refl _ w).grown hgrow (Nat.le_refl _) (by intro k h; cases h)
    have HO : Hid (∃ zs, w1.ownsRow w.heap.size 5 1 (.slice (some ⟨w.heap.size, 0, none⟩) len len) len zs ∧ ∀ i, i < 0 → zs[i]? = some (.int .u8 (xs.getD i 0))) := ⟨_, hown, fun i hi => absurd hi (by omega)⟩
    clear hown hgrow hi hz0 hz1 hz2
    go_loopw [4] (fun i wr => ∃ k : Nat, k ≤ len ∧ i = .int .i64 k ∧ Hid (∃ zs, wr.ownsRow w.heap.size 5 1 (.slice (some ⟨w.heap.size, 0, none⟩) len len) len zs ∧ ∀ i, i < k → zs[i]? = some (.int .u8 (xs.getD i 0))) ∧ Below w.heap.size w wr) (fun i _ => len - (intOf i).toNat)
    case atStart => exact ⟨0, Nat.zero_le _, rfl, HO, hb1⟩
    case round =>
      obtain ⟨k, hk, rfl, HW, hb⟩ := hrel
      by_cases hlt : k < len
      · have hcell : wr.cell? ⟨b, k, none⟩ = some (.int .u8 (xs.getD k 0)) := by
          have := (hb.cell (p := ⟨b, 0 + k, none⟩) hbl).trans (HC.out k (by have := HL.out; omega))
          simpa using this
        obtain ⟨zs, hown, hz⟩ := HW.out
        have hfz := hown.frozenAt k
        have hat := hown.cellAt k (by omega)
        have hxl : k < zs.length := by rw [hown.1]; omega
        rw [List.getElem?_eq_getElem hxl] at hat
        have st := hown.stored k (.int .u8 (xs.getD k 0))
        have hb2 : Below w.heap.size w (wr.setCell ⟨w.heap.size, k, none⟩ (.int .u8 (xs.getD k 0))) := hb.setCell (Nat.le_refl _) _
        have R : Hid (Hid (∃ zs, (wr.setCell ⟨w.heap.size, k, none⟩ (.int .u8 (xs.getD k 0))).ownsRow w.heap.size 5 1 (.slice (some ⟨w.heap.size, 0, none⟩) len len) len zs ∧ ∀ i, i < k + 1 → zs[i]? = some (.int .u8 (xs.getD i 0))) ∧ Below w.heap.size w (wr.setCell ⟨w.heap.size, k, none⟩ (.int .u8 (xs.getD k 0)))) := by
          refine ⟨⟨_, st.1, fun i hi => ?_⟩, hb2⟩
          by_cases e : i = k
          · subst e; rw [List.getElem?_set_self hxl]
          · rw [List.getElem?_set_ne (by omega)]; exact hz i (by omega)
        clear st hb2 hown hz
        go_wp2
        go_roundw
        case rel => exact ⟨k + 1, by omega, by go_num, R.out.1, R.out.2⟩
        case measure => simp [intOf]; omega
      · have hz : k = len := by omega
        obtain ⟨zs, hown, hz'⟩ := HW.out
        have hO : Own wr (.slice (some ⟨w.heap.size, 0, none⟩) len len) xs := by
          refine own_of_row HL.out ?_ fun i hi => ?_
          · rcases hown.2 with ⟨h, _⟩ | ⟨g', cap', cur, h, _, hg, _⟩
            · simp at h
            · simp only [Value.slice.injEq, Option.some.injEq, Addr.mk.injEq, and_true, true_and] at h
              obtain ⟨rfl, rfl⟩ := h
              exact (Array.getElem?_eq_some_iff.1 hg).1
          · have := HL.out
            rw [hown.cellAt i (by omega)]
            exact hz' i (by omega)
        clear hown hz'
        have HH : Hid (Own wr (.slice (some ⟨w.heap.size, 0, none⟩) len len) xs) := hO
        clear hO
        go_wp2
        go_ret
        exact ⟨_, _, _, rfl, HH.out, hb⟩

def BytesEnd (w : World) (e : Ending) (w' : World) : Prop := ∃ t : Bool, e = .returned (.bool t) ∧ w' = w
theorem BytesEnd.mk (t : Bool) (w : World) (e : Ending) (he : e = .returned (.bool t)) : BytesEnd w e w := ⟨t, he, rfl⟩

set_option maxHeartbeats 400000 in
theorem bytes_any (a0 a1 a2 : Option Addr) (l0 c0 l1 c1 l2 c2 : Nat) (d : Bool) (w : World) (h0 : l0 ≤ maxLen) (h1 : l1 ≤ maxLen) (h2 : l2 ≤ maxLen) :
    Calls Try.prog 6 #[.slice a0 l0 c0, .slice a1 l1 c1, .slice a2 l2 c2, .bool d] w (BytesEnd w) := by
  unfold maxLen at h0 h1 h2
  go_enter Try.func6, Try.ntmps6
  go_wp2
  all_goals first
    | (go_ret; exact BytesEnd.mk false _ _ rfl)
    | (go_ret; exact BytesEnd.mk true _ _ rfl)

/-- WHAT THE WALK IS TOLD OF A SLICE OF INTEGERS THAT CAME IN: it is nil; or it leads to a row of 'cap' cells, the numbers 'zs' (the first 'len' are its elements, the rest its spare room), each fitting its kind. -/
def IsRow (k : IntKind) (w : World) (a : Option Addr) (len cap : Nat) (zs : List Int) : Prop :=
  (a = none ∧ len = 0 ∧ cap = 0 ∧ zs = []) ∨
  ∃ x, a = some x ∧ len ≤ cap ∧ cap ≤ maxLen ∧ zs.length = cap ∧ (∀ i, i < zs.length → w.cell? (x.add i) = some (.int k (zs.getD i 0))) ∧ ∀ n ∈ zs, (Lit.int k n).wf = true

theorem IsRow.len_le {k : IntKind} {w : World} {a : Option Addr} {len cap : Nat} {zs : List Int} (h : IsRow k w a len cap zs) : len ≤ maxLen := by
  rcases h with ⟨_, rfl, _⟩ | ⟨x, _, h1, h2, _⟩
  · unfold maxLen; omega
  · omega

/-- The slice that came in, below block number B. -/
def Src (B : Nat) (w : World) (a : Option Addr) (len cap : Nat) (xs : List Int) : Prop :=
  xs.length = len ∧ ((a = none ∧ len = 0 ∧ cap = 0) ∨ ∃ x, a = some x ∧ (0 < len → x.block < B) ∧ ∀ i, i < len → w.cell? (x.add i) = some (.int .u8 (xs.getD i 0)))

theorem IsRow.src {w : World} {a : Option Addr} {len cap : Nat} {zs : List Int} (h : IsRow .u8 w a len cap zs) : Src w.heap.size w a len cap (zs.take len) := by
  rcases h with ⟨rfl, rfl, rfl, rfl⟩ | ⟨x, rfl, h1, h2, h3, hc, _⟩
  · exact ⟨rfl, .inl ⟨rfl, rfl, rfl⟩⟩
  · refine ⟨by simp; omega, .inr ⟨x, rfl, fun h0 => ?_, fun i hi => ?_⟩⟩
    · have := World.block_lt_of_cell? w _ (hc 0 (by omega))
      simpa [Addr.add] using this
    · rw [hc i (by omega)]
      simp [List.getD, hi]

theorem Src.below {w w' : World} {a : Option Addr} {len cap : Nat} {xs : List Int} (h : Src w.heap.size w a len cap xs) (hb : Below w.heap.size w w') : Src w.heap.size w' a len cap xs := by
  obtain ⟨h1, h | ⟨x, rfl, hx, hc⟩⟩ := h
  · exact ⟨h1, .inl h⟩
  · refine ⟨h1, .inr ⟨x, rfl, hx, fun i hi => ?_⟩⟩
    rw [hb.cell (p := x.add i) (by have := hx (by omega); unfold Addr.add; split <;> exact this)]
    exact hc i hi

theorem Src.mono {B B' : Nat} {w : World} {a : Option Addr} {len cap : Nat} {xs : List Int} (h : Src B w a len cap xs) (hB : B ≤ B') : Src B' w a len cap xs := by
  obtain ⟨h1, h | ⟨x, rfl, hx, hc⟩⟩ := h
  · exact ⟨h1, .inl h⟩
  · exact ⟨h1, .inr ⟨x, rfl, fun h0 => Nat.lt_of_lt_of_le (hx h0) hB, hc⟩⟩

theorem splice_all {α : Type} (L cs : List α) (h : cs.length = L.length) : splice L 0 cs = cs := by
  simp [splice, h]

/-- The row that make has laid: its cells, and that nothing old has turned. -/
theorem row_list {w w1 : World} {n : Nat} {zs : List Value} (hown : w1.ownsRow w.heap.size 5 1 (.slice (some ⟨w.heap.size, 0, none⟩) n n) n zs) (hgrow : w.grownBy w1 none) :
    ∃ cur : List Value, Hid (w1.heap[w.heap.size]? = some (.cells cur.toArray 5 (0, 0))) ∧ Hid (cur.length = n) ∧ Hid (Below w.heap.size w w1) := by
  rcases hown.2 with ⟨h, _⟩ | ⟨g', cap', cur, h, _, hg, _, _, hs, _⟩
  · simp at h
  · simp only [Value.slice.injEq, Option.some.injEq, Addr.mk.injEq, and_true, true_and] at h
    obtain ⟨rfl, rfl⟩ := h
    exact ⟨cur.toList, by simpa [Hid] using hg, by simpa [Hid] using hs, (Below.refl _ w).grown hgrow (Nat.le_refl _) (by intro k h; cases h)⟩

theorem copy_src {W w1 : World} {x : Addr} {len : Nat} {xs : List Int} (hb : Below W.heap.size W w1) (hlo : 0 < len → x.block < W.heap.size) (hc : ∀ i, i < len → W.cell? (x.add i) = some (.int .u8 (xs.getD i 0))) (hl : xs.length = len) :
    ∀ j v, (xs.map (Value.int .u8))[j]? = some v → w1.cell? (x.add j) = some v := by
  intro j v hj
  have hjl : j < xs.length := by
    have := (List.getElem?_eq_some_iff.1 hj).1
    simpa using this
  rw [hb.cell (p := x.add j) (by have := hlo (by omega); unfold Addr.add; split <;> exact this), hc j (by omega)]
  simp [List.getElem?_eq_getElem hjl] at hj
  subst hj
  simp [List.getD, List.getElem?_eq_getElem hjl]

theorem copied {W w1 w2 : World} {len : Nat} {xs : List Int} {cur : List Value} (h3 : Hid (w2.heap[W.heap.size]? = some (.cells (splice cur 0 (xs.map (Value.int .u8))).toArray 5 (0, 0)))) (h4 : Below W.heap.size W w2) (hl : xs.length = len) (hcl : cur.length = len)
    (h1 : w1.heap[W.heap.size]? = some (.cells cur.toArray 5 (0, 0))) (h2 : Below W.heap.size W w1) : Hid (Own w2 (.slice (some ⟨W.heap.size, 0, none⟩) len len) xs) := by
  have h := h3.out
  rw [splice_all _ _ (by simp [hl, hcl])] at h
  refine own_of_row hl.symm (Array.getElem?_eq_some_iff.1 h).1 fun i hi => ?_
  rw [cell_of_row _ _ _ _ _ _ h]
  simp [List.getElem?_eq_getElem hi]

theorem hid {p : Prop} (h : p) : Hid p := h

theorem copy_nil {w : World} {xs : List Int} (h : xs.length = 0) : Hid (Own w (.slice none 0 0) xs) := .inl ⟨rfl, List.eq_nil_of_length_eq_zero h⟩

set_option maxRecDepth 100000 in
set_option maxHeartbeats 1000000 in
theorem walk (a0 : Option Addr) (len0 cap0 : Nat) (z0 : List Int) (a1 : Option Addr) (len1 cap1 : Nat) (z1 : List Int) (a2 : Option Addr) (len2 cap2 : Nat) (z2 : List Int) (a3 : Bool) (w : World) (w0 : IsRow .u8 w a0 len0 cap0 z0) (w1 : IsRow .u8 w a1 len1 cap1 z1) (w2 : IsRow .u8 w a2 len2 cap2 z2) :
    Calls Try.prog 3 #[.slice a0 len0 cap0, .slice a1 len1 cap1, .slice a2 len2 cap2, .bool a3] w fun e w' => e = .returned (.bool true) ∧ Below w.heap.size w w' := by
  have m0 := w0.len_le
  have m1 := w1.len_le
  have m2 := w2.len_le
  have S0 : Hid (Src w.heap.size w a0 len0 cap0 (z0.take len0)) := w0.src
  have S1 : Hid (Src w.heap.size w a1 len1 cap1 (z1.take len1)) := w1.src
  have S2 : Hid (Src w.heap.size w a2 len2 cap2 (z2.take len2)) := w2.src
  clear w0 w1 w2
  generalize z0.take len0 = xs at S0
  generalize z1.take len1 = zs at S1
  generalize z2.take len2 = ys at S2
  have hnil := fun (w : World) (a : Option Addr) (n c : Nat) => run_neq_slice_nil_any (P := Try.prog) w 22 5 a n c 0 0 Try.underlying22
  go_enter Try.func3, Try.ntmps3
  go_wp2_with fail
  refine (bytes_any a0 a1 a2 len0 cap0 len1 cap1 len2 cap2 a3 w m0 m1 m2).mono ?_
  rintro e w' ⟨t, rfl, rfl⟩
  unfold maxLen at m0 m1 m2
  cases t
  · go_wp2_with fail
    go_ret
    exact ⟨rfl, Below.refl _ _⟩
  by_cases g0 : 65536 < len0
  · go_wp2_with fail
    go_ret
    exact ⟨rfl, Below.refl _ _⟩
  by_cases g1 : 65536 < len1
  · go_wp2_with fail
    go_ret
    exact ⟨rfl, Below.refl _ _⟩
  by_cases g2 : 65536 < len2
  · go_wp2_with fail
    go_ret
    exact ⟨rfl, Below.refl _ _⟩
  go_upto_if 31 with fail
  go_cut [0, 9] (fun s z wx => ∃ a l c, s = .slice a l c ∧ l ≤ 65536 ∧ Hid (Own wx (.slice a l c) xs) ∧ Hid (Below w'.heap.size w' wx))
  case first =>
    obtain ⟨hx, hsrc⟩ := S0.out
    rcases hsrc with ⟨ha, hl, hcp⟩ | ⟨x, ha, hlo, hc⟩
    · subst ha
      subst hl
      subst hcp
      go_wp2_with fail
      go_meet
      case rel => exact ⟨_, _, _, rfl, by omega, copy_nil hx, hid (Below.refl _ _)⟩
    · subst ha
      have HX := hid hx
      have HC := hid hc
      have HLO := hid hlo
      clear hx hc hlo
      obtain ⟨i0, hi, hz0, hz1, hz2⟩ := info_parts info5
      go_wp2_with (first | (at_make; refine wpList_make_full _ rfl (.tmp 33) (.tmp 33) 22 rfl w'.heap.size 5 i0 (.int .u8 0) 1 Try.underlying22 hi hz0 hz1 .i64 .i64 _ _ len0 rfl rfl (by omega) (by omega) (by rw [hz2]; omega) (by unfold maxLen; omega) (Nat.le_refl _) ?_; intro w1 hown hgrow; obtain ⟨cur, H1, hcl, H2⟩ := row_list hown hgrow; clear hown hgrow) | (refine wpList_copy_splice rfl (.tmp 35) (.tmp 36) 22 22 rfl 5 Try.underlying22 size5 _ _ len0 len0 len0 cap0 rfl rfl w'.heap.size 0 cur 5 H1.out (xs.map (Value.int .u8)) (by simp [HX.out]) (fun _ => ⟨rfl, x, rfl, copy_src H2.out HLO.out HC.out HX.out⟩) (by simp [HX.out, hcl.out]) (by simp [Value.oneCell']) w'.heap.size w' H2.out (Nat.le_refl _) ?_; intro w2 H3 H4))
      have HO := copied (xs := xs) (len := len0) H3 H4 HX.out hcl.out H1.out H2.out
      have HB := hid H4
      clear H3 H4 hi hz0 hz1 hz2
      go_wp2_with fail
      go_meet
      case rel => exact ⟨_, _, _, rfl, by omega, HO, HB⟩
  case rest =>
  obtain ⟨b0, l0, c0, rfl, hl0, O0, B0⟩ := hcut
  rename World => W1
  have T1 := hid (Src.mono (Src.below S1.out B0.out) B0.out.size)
  have T2 := hid (Src.mono (Src.below S2.out B0.out) B0.out.size)
  go_upto_if 40 with fail
  go_cut [1, 10] (fun s z wx => ∃ a l c, s = .slice a l c ∧ l ≤ 65536 ∧ Hid (Own wx (.slice a l c) zs) ∧ Hid (Below W1.heap.size W1 wx))
  case first =>
    obtain ⟨hx, hsrc⟩ := T1.out
    rcases hsrc with ⟨ha, hl, hcp⟩ | ⟨x, ha, hlo, hc⟩
    · subst ha
      subst hl
      subst hcp
      go_wp2_with fail
      go_meet
      case rel => exact ⟨_, _, _, rfl, by omega, copy_nil hx, hid (Below.refl _ _)⟩
    · subst ha
      have HX := hid hx
      have HC := hid hc
      have HLO := hid hlo
      clear hx hc hlo
      obtain ⟨i0, hi, hz0, hz1, hz2⟩ := info_parts info5
      go_wp2_with (first | (at_make; refine wpList_make_full _ rfl (.tmp 42) (.tmp 42) 22 rfl W1.heap.size 5 i0 (.int .u8 0) 1 Try.underlying22 hi hz0 hz1 .i64 .i64 _ _ len1 rfl rfl (by omega) (by omega) (by rw [hz2]; omega) (by unfold maxLen; omega) (Nat.le_refl _) ?_; intro w1 hown hgrow; obtain ⟨cur, H1, hcl, H2⟩ := row_list hown hgrow; clear hown hgrow) | (refine wpList_copy_splice rfl (.tmp 44) (.tmp 45) 22 22 rfl 5 Try.underlying22 size5 _ _ len1 len1 len1 cap1 rfl rfl W1.heap.size 0 cur 5 H1.out (zs.map (Value.int .u8)) (by simp [HX.out]) (fun _ => ⟨rfl, x, rfl, copy_src H2.out HLO.out HC.out HX.out⟩) (by simp [HX.out, hcl.out]) (by simp [Value.oneCell']) W1.heap.size W1 H2.out (Nat.le_refl _) ?_; intro w2 H3 H4))
      have HO := copied (xs := zs) (len := len1) H3 H4 HX.out hcl.out H1.out H2.out
      have HB := hid H4
      clear H3 H4 hi hz0 hz1 hz2
      go_wp2_with fail
      go_meet
      case rel => exact ⟨_, _, _, rfl, by omega, HO, HB⟩
  case rest =>
  obtain ⟨b1, l1, c1, rfl, hl1, O1, B1⟩ := hcut
  rename World => W2
  have T3 := hid (Src.mono (Src.below T2.out B1.out) B1.out.size)
  go_upto_if 49 with fail
  go_cut [2, 11] (fun s z wx => ∃ a l c, s = .slice a l c ∧ l ≤ 65536 ∧ Hid (Own wx (.slice a l c) ys) ∧ Hid (Below W2.heap.size W2 wx))
  case first =>
    obtain ⟨hx, hsrc⟩ := T3.out
    rcases hsrc with ⟨ha, hl, hcp⟩ | ⟨x, ha, hlo, hc⟩
    · subst ha
      subst hl
      subst hcp
      go_wp2_with fail
      go_meet
      case rel => exact ⟨_, _, _, rfl, by omega, copy_nil hx, hid (Below.refl _ _)⟩
    · subst ha
      have HX := hid hx
      have HC := hid hc
      have HLO := hid hlo
      clear hx hc hlo
      obtain ⟨i0, hi, hz0, hz1, hz2⟩ := info_parts info5
      go_wp2_with (first | (at_make; refine wpList_make_full _ rfl (.tmp 51) (.tmp 51) 22 rfl W2.heap.size 5 i0 (.int .u8 0) 1 Try.underlying22 hi hz0 hz1 .i64 .i64 _ _ len2 rfl rfl (by omega) (by omega) (by rw [hz2]; omega) (by unfold maxLen; omega) (Nat.le_refl _) ?_; intro w1 hown hgrow; obtain ⟨cur, H1, hcl, H2⟩ := row_list hown hgrow; clear hown hgrow) | (refine wpList_copy_splice rfl (.tmp 53) (.tmp 54) 22 22 rfl 5 Try.underlying22 size5 _ _ len2 len2 len2 cap2 rfl rfl W2.heap.size 0 cur 5 H1.out (ys.map (Value.int .u8)) (by simp [HX.out]) (fun _ => ⟨rfl, x, rfl, copy_src H2.out HLO.out HC.out HX.out⟩) (by simp [HX.out, hcl.out]) (by simp [Value.oneCell']) W2.heap.size W2 H2.out (Nat.le_refl _) ?_; intro w2 H3 H4))
      have HO := copied (xs := ys) (len := len2) H3 H4 HX.out hcl.out H1.out H2.out
      have HB := hid H4
      clear H3 H4 hi hz0 hz1 hz2
      go_wp2_with fail
      go_meet
      case rel => exact ⟨_, _, _, rfl, by omega, HO, HB⟩
  case rest =>
  obtain ⟨b2, l2, c2, rfl, hl2, O2, B2⟩ := hcut
  rename World => W3
  have P0 := hid ((O0.out.below B1.out).below B2.out)
  have D3 := hid ((B0.out.trans (B1.out.mono B0.out.size)).trans (B2.out.mono (Nat.le_trans B0.out.size B1.out.size)))
  go_wp2_with fail
  refine (rangeLast_any b0 b1 b2 l0 c0 l1 c1 l2 c2 a3 xs ys W3 P0.out O2.out).mono ?_
  rintro e W4 ⟨rfl, hb4⟩
  have D4 := hid (D3.out.trans (hb4.mono D3.out.size))
  have P4 := hid (P0.out.below hb4)
  have Q4 := hid (O2.out.below hb4)
  clear hb4
  go_wp2_with fail
  refine (rangeLast_any b2 b1 b0 l2 c2 l1 c1 l0 c0 a3 ys xs W4 Q4.out P4.out).mono ?_
  rintro e W5 ⟨rfl, hb5⟩
  have D5 := hid (D4.out.trans (hb5.mono D4.out.size))
  have P5 := hid (P4.out.below hb5)
  clear hb5
  go_wp2_with fail
  refine (clone_any b0 l0 c0 xs (by omega) W5 P5.out).mono ?_
  rintro e W6 ⟨b3, l3, c3, rfl, O3, hb6⟩
  have D6 := hid (D5.out.trans (hb6.mono D5.out.size))
  have P6 := hid (P5.out.below hb6)
  have R6 := hid O3
  clear hb6 O3
  go_wp2_with fail
  refine (rangeLast_any b0 b1 b3 l0 c0 l1 c1 l3 c3 a3 xs xs W6 P6.out R6.out).mono ?_
  rintro e W7 ⟨rfl, hb7⟩
  have D7 := hid (D6.out.trans (hb7.mono D6.out.size))
  clear hb7
  rw [same_self, same_swap xs ys]
  generalize same ys xs = q
  cases a3 <;> cases q <;> (go_wp2_with fail; go_ret; exact ⟨rfl, D7.out⟩)
end Scan
end Go.Proofs.Qxb6612602a
