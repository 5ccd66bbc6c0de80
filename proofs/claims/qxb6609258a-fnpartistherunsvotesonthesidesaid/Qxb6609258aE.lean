import Derived.Test.Qxb6609258aD
namespace Go.Proofs.Qxb6609258a
open Go.ChangeShapes Go.WideShapes Go.ChangeAt Go.RowKit
set_option linter.unusedVariables false

def zero53 : Value := .agg #[.int .u64 0, .int .u64 0, .int .u64 0, .int .u64 0, .int .i32 0, .int .i32 0, .int .i32 0]
theorem info53 : (Try.prog.info? 53).map (fun i => (i.zero, i.size, i.bytes)) = some (some zero53, 7, 48) := by kernel_rfl

theorem made_at (z : Array Value) (n s t j : Nat) (hz : z.size = s) (ht : t < n) (hj : j < s) : (madeCells z (n * s)).toList[t * s + j]? = some z[j]! := by
  have h1 : t * s + j < n * s := by
    have : (t + 1) * s ≤ n * s := Nat.mul_le_mul_right s ht
    have e : (t + 1) * s = t * s + s := Nat.succ_mul t s
    omega
  have h2 : (t * s + j) % s = j := by rw [Nat.add_comm, Nat.add_mul_mod_self_right, Nat.mod_eq_of_lt hj]
  simp [madeCells, h1, hz, h2]

theorem NRow.made {w : World} {T : TypeId} {g n : Nat} (h : w.ownsRow 0 T 7 (.slice (some ⟨g, 0, none⟩) n n) n (madeCells zero53.cells (n * 7)).toList) : g < w.heap.size ∧ NRow w g n := by
  refine ⟨(h.lt g rfl).2, fun t ht => ⟨?_, fun j hj => h.frozenAt _⟩⟩
  have hsz : (madeCells zero53.cells (n * 7)).toList.length = n * 7 := by simp [madeCells]
  have key : ∀ j, j < 7 → w.cell? ⟨g, t * 7 + j, none⟩ = some zero53.cells[j]! := fun j hj => by
    have e := made_at zero53.cells n 7 t j rfl ht hj
    rw [h.cellAt (t * 7 + j) (by omega), e]
  exact ⟨0, 0, 0, 0, 0, 0, 0, key 0 (by omega), key 1 (by omega), key 2 (by omega), key 3 (by omega), key 4 (by omega), key 5 (by omega), key 6 (by omega)⟩

theorem XRow.made {w : World} {g n : Nat} {f : Nat → Int} (h : KRow .i64 w g n f) : XRow w g n := fun i hi => ⟨⟨_, (h.2 i hi).1⟩, (h.2 i hi).2⟩
theorem XRow.of_block {w w' : World} {g n : Nat} (h : XRow w g n) (hb : w'.heap[g]? = w.heap[g]?) : XRow w' g n := fun i hi =>
  ⟨by obtain ⟨z, hz⟩ := (h i hi).1; exact ⟨z, (World.cell?_of_block (w := w) (a := ⟨g, i, none⟩) hb).trans hz⟩, (World.frozen?_of_block (w := w) (a := ⟨g, i, none⟩) hb).trans (h i hi).2⟩
theorem NRow.of_block {w w' : World} {g n : Nat} (h : NRow w g n) (hb : w'.heap[g]? = w.heap[g]?) : NRow w' g n := fun t ht => by
  obtain ⟨⟨a, b, c, d, l, r, q, c0, c1, c2, c3, c4, c5, c6⟩, hf⟩ := h t ht
  have key : ∀ o, w'.cell? ⟨g, o, none⟩ = w.cell? ⟨g, o, none⟩ := fun o => World.cell?_of_block (w := w) (a := ⟨g, o, none⟩) hb
  exact ⟨⟨a, b, c, d, l, r, q, by rw [key]; exact c0, by rw [key]; exact c1, by rw [key]; exact c2, by rw [key]; exact c3, by rw [key]; exact c4, by rw [key]; exact c5, by rw [key]; exact c6⟩,
    fun j hj => (World.frozen?_of_block (w := w) (a := ⟨g, t * 7 + j, none⟩) hb).trans (hf j hj)⟩

def BalEnd (n : Nat) (h : Nat → Int) (w : World) (e : Ending) (w' : World) : Prop :=
  ∃ (gN gL gI : Nat) (r : Int), e = .returned (.tuple #[.slice (some ⟨gN, 0, none⟩) n n, .int .i32 r, .slice (some ⟨gL, 0, none⟩) n n, .slice (some ⟨gI, 0, none⟩) n n]) ∧ -1 ≤ r ∧ r < n ∧ NRow w' gN n ∧
    (∀ t, t < n → Good w' gN h t) ∧ Below w.heap.size w w'

theorem results_tmp4 {fn : Func} {t u v x : Tmp} (h : fn.results = #[.tmp t, .tmp u, .tmp v, .tmp x]) (tmps : Array Value) (P : Program) (w : World) :
    (results fn tmps).run P w = .ok (.tuple #[tmps.getD t undef, tmps.getD u undef, tmps.getD v undef, tmps.getD x undef]) w := by
  simp [results, h]

set_option maxHeartbeats 2000000 in
theorem balanced_any (gF gH gP n : Nat) (fl h : Nat → Int) (ps : Nat → Nat) (hn : n ≤ 4096) (w : World) (hF : KRow .u64 w gF n fl) (hH : KRow .u64 w gH n h) (hP : PRow w gP n ps) (hM : Perm ps n) :
    Calls Try.prog 10 #[.slice (some ⟨gF, 0, none⟩) n n, .slice (some ⟨gH, 0, none⟩) n n, .slice (some ⟨gP, 0, none⟩) n n] w (BalEnd n h w) := by
  have RF := hid hF
  have RH := hid hH
  have RP := hid hP
  have RM := hid hM
  clear hF hH hP hM
  obtain ⟨i0, hi, hz0, hz1, hz2⟩ := info_parts info53
  obtain ⟨i1, ki, kz0, kz1, kz2⟩ := info_parts info3
  go_enter Try.func10, Try.ntmps10
  go_wp2_with (first
    | (at_make; refine wpList_make_full _ rfl (.tmp 17) (.tmp 17) 30 rfl 0 53 i0 zero53 7 Try.underlying30 hi hz0 hz1 .i64 .i64 _ _ n rfl rfl (by omega) (by omega) (by rw [hz2]; omega) (by unfold maxLen; omega) (Nat.zero_le _) ?_; intro w1 hown1 hgrow1)
    | (at_make; refine wpList_make_full _ rfl (.tmp 19) (.tmp 19) 28 rfl 0 3 i1 (.int .i64 0) 1 Try.underlying28 ki kz0 kz1 .i64 .i64 _ _ n rfl rfl (by omega) (by omega) (by rw [kz2]; omega) (by unfold maxLen; omega) (Nat.zero_le _) ?_; intro w2 hown2 hgrow2)
    | (at_make; refine wpList_make_full _ rfl (.tmp 21) (.tmp 21) 28 rfl 0 3 i1 (.int .i64 0) 1 Try.underlying28 ki kz0 kz1 .i64 .i64 _ _ n rfl rfl (by omega) (by omega) (by rw [kz2]; omega) (by unfold maxLen; omega) (Nat.zero_le _) ?_; intro w3 hown3 hgrow3))
  have hb1 : Below w.heap.size w w1 := (Below.refl _ w).grown hgrow1 (Nat.le_refl _) (by intro k h; cases h)
  have hb2 : Below w1.heap.size w1 w2 := (Below.refl _ w1).grown hgrow2 (Nat.le_refl _) (by intro k h; cases h)
  have hb3 : Below w2.heap.size w2 w3 := (Below.refl _ w2).grown hgrow3 (Nat.le_refl _) (by intro k h; cases h)
  have r1 := NRow.made hown1
  have r2 : KRow .i64 w2 w1.heap.size n (fun _ => 0) := KRow.made hown2
  have r3 : KRow .i64 w3 w2.heap.size n (fun _ => 0) := KRow.made hown3
  have l1 : w.heap.size < w1.heap.size := r1.1
  have l2 : w1.heap.size < w2.heap.size := r2.1
  have hb : Below w.heap.size w w3 := (hb1.trans (hb2.mono hb1.size)).trans (hb3.mono (Nat.le_trans hb1.size hb2.size))
  have hN : NRow w3 w.heap.size n := (r1.2.of_block (hb2.block _ l1)).of_block (hb3.block _ (by omega))
  have hL : XRow w3 w1.heap.size n := (XRow.made r2).of_block (hb3.block _ l2)
  have hI : XRow w3 w2.heap.size n := XRow.made r3
  have V : Hid (BInv n w.heap.size w w.heap.size w1.heap.size w2.heap.size w3) := ⟨hb, hN, hL, hI⟩
  have E : Env n w.heap.size w w.heap.size w1.heap.size w2.heap.size gF gH gP fl h ps :=
    ⟨hn, RF.out, RH.out, RP.out, RM.out.1, RF.out.1, RH.out.1, RP.out.1, Nat.le_refl _, by omega, by omega, by omega, by omega, by omega⟩
  have l3 : w.heap.size < w3.heap.size := by have := r3.1; omega
  clear hown1 hown2 hown3 hgrow1 hgrow2 hgrow3 hb1 hb2 hb3 r1 r2 r3 hb hN hL hI hi hz0 hz1 hz2 ki kz0 kz1 kz2
  have CALL := hid (build_any E n 0 n 0 n (-1) w3 rfl rfl (by omega) (by omega) (by omega) (by omega) (by omega) V.out)
  go_wp2_with fail
  refine CALL.out.mono ?_
  rintro e w4 ⟨r, rfl, hr1, hr2, hv, hg1, hg2⟩
  have HF : Hid (BalEnd n h w (.returned (.tuple #[.slice (some ⟨w.heap.size, 0, none⟩) n n, .int .i32 r, .slice (some ⟨w1.heap.size, 0, none⟩) n n, .slice (some ⟨w2.heap.size, 0, none⟩) n n])) w4) := by
    refine ⟨_, _, _, r, rfl, hr1, hr2, hv.2.1, fun t ht => ?_, hv.1⟩
    obtain ⟨m, hm, rfl⟩ := RM.out.2 t ht
    exact hg2 m (Nat.zero_le _) hm
  clear hv hg1 hg2 CALL V E
  go_wp2_with fail
  (try simp only [Exit.inBlock, Exit.then])
  refine bodyPost_ret (results_tmp4 rfl _ _ _) rfl ?_
  exact HF.out
end Go.Proofs.Qxb6609258a
