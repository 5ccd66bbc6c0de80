import Derived.Test.Qxb6612602aRows
import Derived.WalkKit
import Derived.ProofKit
import Derived.WalkSpells
import Derived.WalkLawsBesides
import Derived.Below
import Derived.Deep.DeepCutAuto
import Derived.Deep.QuietTactic
import Derived.BigQuiet
namespace Go.Proofs.Qxb6612602a
open Go.ChangeShapes Go.WideShapes Go.ChangeAt Go.RowKit
set_option linter.unusedVariables false

namespace U
theorem hid {p : Prop} (h : p) : Hid p := h

/-- The slice at 'a' of the numbers xs can be read in w. -/
def Rd (w : World) (a : Option Addr) (xs : List Int) : Prop :=
  0 < xs.length → ∃ b off, a = some ⟨b, off, none⟩ ∧ b < w.heap.size ∧ ∀ i, i < xs.length → w.cell? ⟨b, off + i, none⟩ = some (.int .u64 (xs.getD i 0))

theorem Rd.below {w w' : World} {a : Option Addr} {xs : List Int} (h : Rd w a xs) (hb : Below w.heap.size w w') : Rd w' a xs := by
  intro h0
  obtain ⟨b, off, rfl, hlt, hc⟩ := h h0
  exact ⟨b, off, rfl, Nat.lt_of_lt_of_le hlt hb.size, fun i hi => (hb.cell (p := ⟨b, off + i, none⟩) hlt).trans (hc i hi)⟩

/-- A slice that lies at the head of block g, or nil: the numbers xs; its cells may be written. -/
def Own (w : World) (g : Nat) (v : Value) (xs : List Int) : Prop :=
  (v = .slice none 0 0 ∧ xs = []) ∨ ∃ cap, v = .slice (some ⟨g, 0, none⟩) xs.length cap ∧ w.ownsRow 0 27 1 v xs.length (xs.map (Value.int .u64))

theorem Own.of_block {w w' : World} {g : Nat} {v : Value} {xs : List Int} (h : Own w g v xs) (hb : g < w.heap.size → w'.heap[g]? = w.heap[g]?) : Own w' g v xs := by
  rcases h with h | ⟨cap, rfl, h1, h2⟩
  · exact .inl h
  · refine .inr ⟨cap, rfl, h1, ?_⟩
    rcases h2 with ⟨h, _⟩ | ⟨g', cap', cur, h, hg0, hg, r⟩
    · simp at h
    · simp only [Value.slice.injEq, Option.some.injEq, Addr.mk.injEq, and_true, true_and] at h
      obtain ⟨rfl, rfl⟩ := h
      exact .inr ⟨g, cap, cur, rfl, hg0, (hb (Array.getElem?_eq_some_iff.1 hg).1).trans hg, r⟩

theorem Own.below {w w' : World} {g : Nat} {v : Value} {xs : List Int} (h : Own w g v xs) (hb : Below w.heap.size w w') : Own w' g v xs := h.of_block fun hg => hb.block g hg

theorem getD_map (xs : List Int) (i : Nat) (h : i < xs.length) : (xs.map (Value.int .u64))[i]? = some (.int .u64 (xs.getD i 0)) := by
  simp [List.getD, List.getElem?_eq_getElem h]

/-- Its shape, and that it can be read. -/
theorem Own.rd {w : World} {g : Nat} {v : Value} {xs : List Int} (h : Own w g v xs) : ∃ a c, v = .slice a xs.length c ∧ Rd w a xs ∧ (a = none → xs = []) := by
  rcases h with ⟨rfl, rfl⟩ | ⟨cap, rfl, h⟩
  · exact ⟨none, 0, rfl, fun h => by simp at h, fun _ => rfl⟩
  · refine ⟨_, _, rfl, fun h0 => ⟨g, 0, rfl, ?_, fun i hi => ?_⟩, fun h => by cases h⟩
    · exact (h.lt g rfl).2
    · rw [Nat.zero_add, h.cellAt i (by omega)]
      exact getD_map xs i hi

theorem info27 : (Try.prog.info? 27).map (fun i => (i.zero, i.size, i.bytes)) = some (some (.int .u64 0), 1, 8) := by kernel_rfl

set_option maxHeartbeats 400000 in
/-- zzCloneU64: a copy in a block of its own (nil of nil). -/
theorem clone_any (a : Option Addr) (xs : List Int) (cap : Nat) (hlen : xs.length ≤ 1048576) (w : World) (h : Rd w a xs) (hn : a = none → xs = []) :
    Calls Try.prog 11 #[.slice a xs.length cap] w fun e w' => ∃ v, e = .returned v ∧ Own w' w.heap.size v xs ∧ Below w.heap.size w w' ∧ (v = .slice none 0 0 ∨ w.heap.size < w'.heap.size) := by
  have hnil := fun (w : World) (a : Option Addr) (n c : Nat) => Lib.run_eql_slice_nil (P := Try.prog) w 26 27 a n c 0 0 Try.underlying26
  cases a with
  | none =>
    have := hn rfl
    subst this
    go_enter Try.func11, Try.ntmps11
    go_wp2
    go_ret
    exact ⟨_, rfl, .inl ⟨rfl, rfl⟩, Below.refl _ _, .inl rfl⟩
  | some x =>
    have HR := hid h
    clear h hn
    generalize hl : xs.length = len
    rw [hl] at hlen
    have HL := hid hl
    clear hl
    obtain ⟨i0, hi, hz0, hz1, hz2⟩ := info_parts info27
    go_enter Try.func11, Try.ntmps11
    go_wp2_with (at_make; refine wpList_make_full _ rfl (.tmp 8) (.tmp 8) 26 rfl 0 27 i0 (.int .u64 0) 1 Try.underlying26 hi hz0 hz1 .i64 .i64 _ _ len rfl rfl (by omega) (by omega) (by rw [hz2]; omega) (by unfold maxLen; omega) (Nat.zero_le _) ?_; intro w1 hown hgrow)
    have hb1 : Below w.heap.size w w1 := (Below.refl _ w).grown hgrow (Nat.le_refl _) (by intro k h; cases h)
    have HO : Hid (∃ zs, w1.ownsRow 0 27 1 (.slice (some ⟨w.heap.size, 0, none⟩) len len) len zs ∧ ∀ i, i < 0 → zs[i]? = some (.int .u64 (xs.getD i 0))) := ⟨_, hown, fun i hi => absurd hi (by omega)⟩
    clear hown hgrow hi hz0 hz1 hz2
    go_loopw [4] (fun i wr => ∃ k : Nat, k ≤ len ∧ i = .int .i64 k ∧ Hid (∃ zs, wr.ownsRow 0 27 1 (.slice (some ⟨w.heap.size, 0, none⟩) len len) len zs ∧ ∀ i, i < k → zs[i]? = some (.int .u64 (xs.getD i 0))) ∧ Below w.heap.size w wr) (fun i _ => len - (intOf i).toNat)
    case atStart => exact ⟨0, Nat.zero_le _, rfl, HO, hb1⟩
    case round =>
      obtain ⟨k, hk, rfl, HW, hb⟩ := hrel
      by_cases hlt : k < len
      · obtain ⟨b, off, hx, hbl, hc⟩ := HR.out (by have := HL.out; omega)
        simp only [Option.some.injEq] at hx
        subst hx
        have hcell : wr.cell? ⟨b, off + k, none⟩ = some (.int .u64 (xs.getD k 0)) := (hb.cell (p := ⟨b, off + k, none⟩) hbl).trans (hc k (by have := HL.out; omega))
        clear hc
        obtain ⟨zs, hown, hz⟩ := HW.out
        have hfz := hown.frozenAt k
        have hat := hown.cellAt k (by omega)
        have hxl : k < zs.length := by rw [hown.1]; omega
        rw [List.getElem?_eq_getElem hxl] at hat
        have st := hown.stored k (.int .u64 (xs.getD k 0))
        have hb2 : Below w.heap.size w (wr.setCell ⟨w.heap.size, k, none⟩ (.int .u64 (xs.getD k 0))) := hb.setCell (Nat.le_refl _) _
        have R : Hid (Hid (∃ zs, (wr.setCell ⟨w.heap.size, k, none⟩ (.int .u64 (xs.getD k 0))).ownsRow 0 27 1 (.slice (some ⟨w.heap.size, 0, none⟩) len len) len zs ∧ ∀ i, i < k + 1 → zs[i]? = some (.int .u64 (xs.getD i 0))) ∧ Below w.heap.size w (wr.setCell ⟨w.heap.size, k, none⟩ (.int .u64 (xs.getD k 0)))) := by
          refine ⟨⟨_, st.1, fun i hi => ?_⟩, hb2⟩
          by_cases e : i = k
          · subst e; rw [List.getElem?_set_self hxl]
          · rw [List.getElem?_set_ne (by omega)]; exact hz i (by omega)
        clear st hb2 hown hz
        go_wp2
        go_roundw
        case rel => exact ⟨k + 1, by omega, by go_num, R.out.1, R.out.2⟩
        case measure => simp [intOf]; omega
      · obtain ⟨zs, hown, hz'⟩ := HW.out
        have hl := HL.out
        have hzs : zs = xs.map (Value.int .u64) := by
          apply List.ext_getElem?
          intro i
          by_cases hi : i < len
          · rw [hz' i (by omega), getD_map xs i (by omega)]
          · rw [List.getElem?_eq_none (by rw [hown.1]; omega), List.getElem?_eq_none (by simp; omega)]
        subst hzs
        have HH : Hid (Own wr w.heap.size (.slice (some ⟨w.heap.size, 0, none⟩) len len) xs) := by
          refine .inr ⟨len, by rw [hl], ?_⟩
          rw [hl]; exact hown
        have hlt2 := (hown.lt w.heap.size rfl).2
        clear hown hz' hl
        go_wp2
        go_ret
        exact ⟨_, rfl, HH.out, hb, .inr hlt2⟩

/-- The least of xs and m. -/
def least (xs : List Int) (m : Int) : Int := xs.foldl (fun m x => if x < m then x else m) m

theorem least_take (xs : List Int) (m : Int) (k : Nat) (h : k < xs.length) : least (xs.take (k + 1)) m = (if xs.getD k 0 < least (xs.take k) m then xs.getD k 0 else least (xs.take k) m) := by
  unfold least
  rw [List.take_succ_eq_append_getElem h, List.foldl_append]
  simp [List.getD, List.getElem?_eq_getElem h]

set_option maxHeartbeats 400000 in
theorem least_any (a : Option Addr) (xs : List Int) (cap : Nat) (m : Int) (hlen : xs.length ≤ 1048576) (w : World) (h : Rd w a xs) :
    Calls Try.prog 15 #[.slice a xs.length cap, .int .u64 m] w fun e w' => e = .returned (.int .u64 (least xs m)) ∧ w' = w := by
  have HR := hid h
  clear h
  generalize hl : xs.length = len
  rw [hl] at hlen
  have HL := hid hl
  clear hl
  go_enter Try.func15, Try.ntmps15
  go_wp2
  go_loop [5, 6] (fun t i => ∃ k : Nat, k ≤ len ∧ i = .int .i64 k ∧ t = .int .u64 (least (xs.take k) m)) (fun _ i => len - (intOf i).toNat)
  case atStart => exact ⟨0, Nat.zero_le _, rfl, rfl⟩
  case round =>
    obtain ⟨k, hk, rfl, rfl⟩ := hrel
    by_cases hlt : k < len
    · obtain ⟨b, off, hx, hbl, hc⟩ := HR.out (by have := HL.out; omega)
      subst hx
      have hcell := hc k (by have := HL.out; omega)
      have HS := hid (least_take xs m k (by have := HL.out; omega))
      clear hc
      generalize least (xs.take k) m = q at HS
      by_cases hq : xs.getD k 0 < q
      · have HS2 : Hid (least (xs.take (k + 1)) m = xs.getD k 0) := by rw [Hid, HS.out, if_pos hq]
        clear HS
        generalize xs.getD k 0 = y at *
        go_wp2
        go_round
        case rel => exact ⟨k + 1, by omega, by go_num, by rw [HS2.out]⟩
        case measure => simp [intOf]; omega
      · have HS2 : Hid (least (xs.take (k + 1)) m = q) := by rw [Hid, HS.out, if_neg hq]
        clear HS
        generalize xs.getD k 0 = y at *
        go_wp2
        go_round
        case rel => exact ⟨k + 1, by omega, by go_num, by rw [HS2.out]⟩
        case measure => simp [intOf]; omega
    · have HF : Hid (xs.take k = xs) := List.take_of_length_le (by have := HL.out; omega)
      go_wp2
      go_ret
      exact ⟨congrArg (fun l => Ending.returned (.int .u64 (least l m))) HF.out, rfl⟩

set_option maxHeartbeats 400000 in
/-- zzEqualU64 on two slices of the same numbers: true. -/
theorem equal_any (a b : Option Addr) (xs : List Int) (ca cb : Nat) (hlen : xs.length ≤ 1048576) (w : World) (ha : Rd w a xs) (hb : Rd w b xs) :
    Calls Try.prog 16 #[.slice a xs.length ca, .slice b xs.length cb] w fun e w' => e = .returned (.bool true) ∧ ∃ n, w' = w.drewN n := by
  have HA := hid ha
  have HB := hid hb
  clear ha hb
  generalize hl : xs.length = len
  rw [hl] at hlen
  have HL := hid hl
  clear hl
  go_enter Try.func16, Try.ntmps16
  go_wp2
  go_loopw [5] (fun i wr => ∃ k n : Nat, k ≤ len ∧ i = .int .i64 k ∧ wr = w.drewN n) (fun i _ => len - (intOf i).toNat)
  case atStart => exact ⟨0, 0, Nat.zero_le _, rfl, rfl⟩
  case round =>
    obtain ⟨k, n, hk, rfl, rfl⟩ := hrel
    by_cases hlt : k < len
    · obtain ⟨b1, off1, hx1, _, hc1⟩ := HA.out (by have := HL.out; omega)
      obtain ⟨b2, off2, hx2, _, hc2⟩ := HB.out (by have := HL.out; omega)
      subst hx1 hx2
      have h1 := hc1 k (by have := HL.out; omega)
      have h2 := hc2 k (by have := HL.out; omega)
      clear hc1 hc2
      generalize xs.getD k 0 = y at *
      have hi0 : (0 : Int) ≤ (k : Int) := by omega
      have hi1 : (k : Int) < (len : Int) := by omega
      go_wp2
      go_quiet (fail)
      go_wp2
      go_roundw
      case rel => exact ⟨k + 1, _, by omega, by go_num, rfl⟩
      case measure => simp [intOf]; omega
    · go_wp2
      go_ret
      exact ⟨rfl, n, rfl⟩

/-- The first k numbers ascend, each below m. -/
def Asc (xs : List Int) (m : Int) (k : Nat) : Prop := ∀ i, i < k → xs.getD i 0 < m ∧ (0 < i → xs.getD (i - 1) 0 < xs.getD i 0)

theorem Asc.succ {xs : List Int} {m : Int} {k : Nat} (h : Asc xs m k) (h1 : xs.getD k 0 < m) (h2 : 0 < k → xs.getD (k - 1) 0 < xs.getD k 0) : Asc xs m (k + 1) := by
  intro i hi
  by_cases e : i = k
  · subst e; exact ⟨h1, h2⟩
  · exact h i (by omega)

def AscEnd (xs : List Int) (m : Int) (w : World) (e : Ending) (w' : World) : Prop := ∃ t : Bool, e = .returned (.bool t) ∧ (t = true → Asc xs m xs.length) ∧ ∃ n, w' = w.drewN n
theorem AscEnd.no (xs : List Int) (m : Int) (w : World) (e : Ending) (n : Nat) (he : e = .returned (.bool false)) : AscEnd xs m w e (w.drewN n) := ⟨false, he, by simp, n, rfl⟩
theorem AscEnd.yes (xs : List Int) (m : Int) (w : World) (e : Ending) (n : Nat) (he : e = .returned (.bool true)) (h : Asc xs m xs.length) : AscEnd xs m w e (w.drewN n) := ⟨true, he, fun _ => h, n, rfl⟩

theorem wrap_sub (k : Nat) (h1 : 1 ≤ k) (h2 : k ≤ 1048576) : IntKind.i64.wrap ((k : Int) - 1) = (k : Int) - 1 := by
  have := IntWalk.wrap64_in ((k : Int) - 1) ⟨by omega, by omega⟩
  rw [← this]
  rw [IntKind.wrap_i64]
  unfold wrap64
  omega

set_option maxHeartbeats 1000000 in
theorem ascending_any (a : Option Addr) (xs : List Int) (cap : Nat) (m : Int) (hlen : xs.length ≤ 1048576) (w : World) (h : Rd w a xs) :
    Calls Try.prog 10 #[.slice a xs.length cap, .int .u64 m] w (AscEnd xs m w) := by
  have HR := hid h
  clear h
  generalize hl : xs.length = len
  rw [hl] at hlen
  have HL := hid hl
  clear hl
  go_enter Try.func10, Try.ntmps10
  go_wp2
  go_loopw [5] (fun i wr => ∃ k n : Nat, k ≤ len ∧ i = .int .i64 k ∧ wr = w.drewN n ∧ Hid (Asc xs m k)) (fun i _ => len - (intOf i).toNat)
  case atStart => exact ⟨0, 0, Nat.zero_le _, rfl, rfl, fun i hi => absurd hi (by omega)⟩
  case round =>
    obtain ⟨k, n, hk, rfl, rfl, HAs⟩ := hrel
    by_cases hlt : k < len
    · obtain ⟨b, off, hx, _, hc⟩ := HR.out (by have := HL.out; omega)
      subst hx
      have h1 := hc k (by have := HL.out; omega)
      have hi0 : (0 : Int) ≤ (k : Int) := by omega
      have hi1 : (k : Int) < (len : Int) := by omega
      by_cases hm : xs.getD k 0 < m
      · by_cases hk0 : k = 0
        · have HF : Hid (Asc xs m (k + 1)) := HAs.out.succ hm (by omega)
          have hd : decide (0 < k) = false := by simp; omega
          clear HAs hc hk0
          generalize xs.getD k 0 = y at *
          go_wp2
          go_quiet (fail)
          go_wp2
          go_roundw
          case rel => exact ⟨k + 1, _, by omega, by go_num, rfl, HF⟩
          case measure => simp [intOf]; omega
        · have h2 := hc (k - 1) (by have := HL.out; omega)
          have hpos : 0 < k := by omega
          have hd : decide (0 < k) = true := by simp; omega
          have hj0 : (0 : Int) ≤ (k : Int) - 1 := by omega
          have hj1 : (k : Int) - 1 < (len : Int) := by omega
          have hj2 : ((k : Int) - 1).toNat = k - 1 := by omega
          have hj3 : IntKind.i64.wrap ((k : Int) - 1) = (k : Int) - 1 := wrap_sub k (by omega) (by omega)
          by_cases hlt2 : xs.getD (k - 1) 0 < xs.getD k 0
          · have HF : Hid (Asc xs m (k + 1)) := HAs.out.succ hm (fun _ => hlt2)
            clear HAs hc
            generalize xs.getD k 0 = y at *
            generalize xs.getD (k - 1) 0 = z at *
            go_wp2
            go_quiet (fail)
            go_wp2
            go_roundw
            case rel => exact ⟨k + 1, _, by omega, by go_num, rfl, HF⟩
            case measure => simp [intOf]; omega
          · clear HAs hc
            generalize xs.getD k 0 = y at *
            generalize xs.getD (k - 1) 0 = z at *
            go_wp2
            go_quiet (fail)
            go_wp2
            go_ret
            rw [World.drewN_drewN]
            exact AscEnd.no _ _ _ _ _ rfl
      · clear HAs hc
        generalize xs.getD k 0 = y at *
        go_wp2
        go_ret
        exact AscEnd.no _ _ _ _ _ rfl
    · have HF : Hid (Asc xs m xs.length) := by
        have := HL.out
        have e : k = xs.length := by omega
        rw [← e]; exact HAs.out
      clear HAs
      go_wp2
      go_ret
      exact AscEnd.yes _ _ _ _ _ rfl HF.out

def BytesEnd (w : World) (e : Ending) (w' : World) : Prop := ∃ t : Bool, e = .returned (.bool t) ∧ w' = w
theorem BytesEnd.mk (t : Bool) (w : World) (e : Ending) (he : e = .returned (.bool t)) : BytesEnd w e w := ⟨t, he, rfl⟩

theorem bytes9_any (a : Option Addr) (len cap : Nat) (m c : Int) (w : World) (h : len ≤ maxLen) : Calls Try.prog 9 #[.slice a len cap, .int .u64 m, .int .u64 c] w (BytesEnd w) := by
  unfold maxLen at h
  go_enter Try.func9, Try.ntmps9
  go_wp2
  all_goals first
    | (go_ret; exact BytesEnd.mk false _ _ rfl)
    | (go_ret; exact BytesEnd.mk true _ _ rfl)

theorem bytes17_any (a : Option Addr) (len cap : Nat) (m c i : Int) (w : World) (h : len ≤ maxLen) : Calls Try.prog 17 #[.slice a len cap, .int .u64 m, .int .u64 c, .int .i64 i] w (BytesEnd w) := by
  unfold maxLen at h
  go_enter Try.func17, Try.ntmps17
  go_wp2
  all_goals first
    | (go_ret; exact BytesEnd.mk false _ _ rfl)
    | (go_ret; exact BytesEnd.mk true _ _ rfl)

/-- The cells of a registry. -/
def reg (v : Value) (next com : Int) (st : Int) : Array Value :=
  #[.int .i32 st, .int .u32 0, .bool false, .int .u64 0, .int .u64 next, v, .slice none 0 0, .int .u64 com, .slice none 0 0, .int .u64 0, .chan none, .int .u64 0, .int .u32 0]

set_option maxHeartbeats 400000 in
theorem newRegistry_any (a : Option Addr) (l c : Nat) (next com : Int) (w : World) :
    Calls Try.prog 13 #[.slice a l c, .int .u64 next, .int .u64 com] w fun e w' => e = .returned (.pointer (some ⟨w.heap.size, 0, none⟩)) ∧ w' = w.alloc (.cells (reg (.slice a l c) next com 0) 62) := by
  go_enter Try.func13, Try.ntmps13
  go_wp2
  go_ret
  exact ⟨rfl, rfl⟩
end U
end Go.Proofs.Qxb6612602a
