import Derived.Test.Qxb6609258aA
import Derived.OpenShut
import Derived.ChangeOld
import Derived.ChangeArms
import Derived.Deep.Slices
namespace Go.Proofs.Qxb6609258a
open Go.ChangeShapes Go.WideShapes Go.ChangeAt Go.RowKit
set_option linter.unusedVariables false

theorem own : ownKnob Try.prog.godebug = none := by kernel_rfl
theorem laidOut : laidOutB Try.prog = true := by kernel_rfl
theorem cells45 : Try.prog.cellsOf 45 = 2 := by kernel_rfl
theorem cells38 : Try.prog.cellsOf 38 = 1 := by kernel_rfl

set_option maxRecDepth 100000 in
theorem open_pair {H : Type} {enc : TypeId × Value → H} {W : World} {n : Nat} {cs : List Value} {x : DataW H × List MemPlace} (h : DataW.trod enc Try.prog W 0 (fun _ => true) true n 45 cs = some x) :
    ∃ p q : Int, cs[0]? = some (.int .u64 p) ∧ cs[1]? = some (.int .u64 q) := by
  obtain ⟨xs, m, rfl, rfl, hl, hxl, hf⟩ := DataW.trod_struct Try.underlying45 h
  have h0 : DataW.trod enc Try.prog W 0 (fun _ => true) true m 38 (List.take (Try.prog.cellsOf 38) (List.drop 0 cs)) = xs[0]? := hf 0 _ rfl
  have h1 : DataW.trod enc Try.prog W 0 (fun _ => true) true m 38 (List.take (Try.prog.cellsOf 38) (List.drop 1 cs)) = xs[1]? := hf 1 _ rfl
  rw [cells38] at h0 h1
  rw [cells45] at hl
  have hxl' : xs.length = 2 := hxl
  match cs, hl with
  | [u, v], _ =>
    have e0 : xs[0]? = some (xs[0]'(by omega)) := List.getElem?_eq_getElem (by omega)
    have e1 : xs[1]? = some (xs[1]'(by omega)) := List.getElem?_eq_getElem (by omega)
    rw [e0] at h0
    rw [e1] at h1
    obtain ⟨p, hp, _, _⟩ := DataW.trod_int Try.underlying38 h0
    obtain ⟨q, hq, _, _⟩ := DataW.trod_int Try.underlying38 h1
    simp at hp hq
    exact ⟨p, q, by simp [hp], by simp [hq]⟩

set_option maxRecDepth 100000 in
/-- The spans that came in. -/
theorem open_spans {H : Type} {enc : TypeId × Value → H} {W : World} {a : Option Addr} {len cap : Nat} {d : DataW H} {ps : List MemPlace}
    (h : DataW.Trod enc Try.prog W 0 (fun _ => true) true 22 (.slice a len cap) d ps) : len ≤ maxLen ∧ ∃ fl hh : Nat → Int, 0 < len → Sp W a len fl hh := by
  obtain ⟨fuel, hf⟩ := h
  have hlt := DataW.trod_lt fuel _ _ _ hf
  rcases Deep.open_slice Try.underlying22 hf with ⟨hcs, _⟩ | ⟨x, l, c, m, n, D, Pl, hcs, _, hl, hm, hmm, hx, hcell⟩
  · simp [Value.cells] at hcs
    obtain ⟨rfl, rfl, rfl⟩ := hcs
    exact ⟨Nat.zero_le _, fun _ => 0, fun _ => 0, fun h0 => absurd h0 (by omega)⟩
  · simp [Value.cells] at hcs
    obtain ⟨rfl, rfl, rfl⟩ := hcs
    simp only [if_true] at hmm
    subst hmm
    simp only [Prod.mk.injEq] at hx
    obtain ⟨_, rfl⟩ := hx
    rw [cells45] at hcell hlt
    refine ⟨Nat.le_trans hl hm, ?_⟩
    by_cases hz : len = 0
    · exact ⟨fun _ => 0, fun _ => 0, fun h0 => absurd h0 (by omega)⟩
    have h0 : 0 < len := by omega
    have hsp : x.spot = none := by
      obtain ⟨cs', h1, h2⟩ := hcell 0 (by omega)
      obtain ⟨_, _, hcc⟩ := World.cells?_some h1
      obtain ⟨p, q, hp, hq⟩ := open_pair h2
      have k0 := hcc 0 (by omega)
      rw [hp] at k0
      simpa [Addr.add] using World.cell?_spot k0
    obtain ⟨b, off, spot⟩ := x
    simp only at hsp
    subst hsp
    have key : ∀ i, i < len → ∃ v : Int × Int, W.cell? ⟨b, off + i * 2, none⟩ = some (.int .u64 v.1) ∧ W.cell? ⟨b, off + i * 2 + 1, none⟩ = some (.int .u64 v.2) := by
      intro i hi
      obtain ⟨cs', h1, h2⟩ := hcell i (by omega)
      obtain ⟨_, _, hcc⟩ := World.cells?_some h1
      obtain ⟨p, q, hp, hq⟩ := open_pair h2
      have k0 := hcc 0 (by omega)
      have k1 := hcc 1 (by omega)
      rw [hp, add_plain, add_plain] at k0
      rw [hq, add_plain, add_plain] at k1
      exact ⟨(p, q), k0, k1⟩
    obtain ⟨f, hfk⟩ := Deep.choose_lt key
    exact ⟨fun i => (f i).1, fun i => (f i).2, fun _ => ⟨b, off, rfl, hlt (.cell b off) (List.mem_append.2 (.inl (MemPlace.mem_row.2 ⟨0, by omega, by simp⟩))), fun i hi => hfk i hi⟩⟩
end Go.Proofs.Qxb6609258a
