import Derived.Test.Qxb6612550aWk
import Derived.OpenShut
import Derived.ChangeOld
import Derived.ChangeArms
import Derived.Deep.Slices
namespace Go.Proofs.Qxb6612550a
open Go.ChangeShapes Go.WideShapes Go.ChangeAt Go.RowKit
open Go.ChangeMaps (open_string shut_string)
set_option linter.unusedVariables false

theorem own : ownKnob Try.prog.godebug = none := by kernel_rfl
theorem laidOut : laidOutB Try.prog = true := by kernel_rfl
theorem cells4 : Try.prog.cellsOf 4 = 1 := by kernel_rfl
theorem cells29 : Try.prog.cellsOf 29 = 1 := by kernel_rfl

/-- The slice of slices that came in, opened as far as the walk asks. -/
theorem open_rows {H : Type} {enc : TypeId × Value → H} {W : World} {a : Option Addr} {len cap : Nat} {d : DataW H} {ps : List MemPlace}
    (h : DataW.Trod enc Try.prog W 0 (fun _ => true) true 23 (.slice a len cap) d ps) : IsRows W a len ∧ LowRows W a len := by
  obtain ⟨fuel, hf⟩ := h
  have hlt := DataW.trod_lt fuel _ _ _ hf
  rcases Deep.open_slice1 Try.underlying23 cells29 hf with ⟨hcs, _⟩ | ⟨x, l, c, m, n, V, D, Pl, hcs, _, hl, hm, hmm, hx, hcell⟩
  · simp [Value.cells] at hcs
    obtain ⟨rfl, rfl, rfl⟩ := hcs
    exact ⟨.inl ⟨rfl, rfl⟩, by intro b off h; cases h⟩
  · simp [Value.cells] at hcs
    obtain ⟨rfl, rfl, rfl⟩ := hcs
    simp only [if_true] at hmm
    subst hmm
    simp only [Prod.mk.injEq] at hx
    obtain ⟨_, rfl⟩ := hx
    have hsh : ∀ i, i < len → ∃ y l c, V i = .slice y l c := by
      intro i hi
      have := (hcell i (by omega)).2
      rcases DataW.trod_slice Try.underlying29 this with ⟨h0, _⟩ | ⟨y, l', c', _, _, _, _, h0, _⟩
      · simp at h0; exact ⟨_, _, _, h0⟩
      · simp at h0; exact ⟨_, _, _, h0⟩
    have hsp : 0 < len → x.spot = none := fun h0 => by simpa [Addr.add] using World.cell?_spot (hcell 0 (by omega)).1
    obtain ⟨b, off, spot⟩ := x
    refine ⟨.inr ⟨_, rfl, fun i hi => ?_⟩, ?_⟩
    · have h1 := hsp (by omega)
      simp only at h1
      subst h1
      obtain ⟨y, l', c', hv⟩ := hsh i hi
      refine ⟨b, off, rfl, y, l', c', ?_⟩
      rw [← hv, ← (hcell i (by omega)).1, add_plain]
    · intro b' off' h h0
      simp only [Option.some.injEq, Addr.mk.injEq] at h
      obtain ⟨rfl, rfl, _⟩ := h
      exact hlt (.cell b off) (List.mem_append.2 (.inl (MemPlace.mem_row.2 ⟨0, by omega, by simp⟩)))

/-- The pointer to a bool that came in. -/
theorem open_req {H : Type} {enc : TypeId × Value → H} {W : World} {v : Value} {base : Nat} {d : DataW H} {ps : List MemPlace} (hval : Value.okWide Try.prog W .any base 22 v)
    (h : DataW.Trod enc Try.prog W 0 (fun _ => true) true 22 v d ps) : ∃ r, v = .pointer r ∧ (r = none ∨ ∃ b off t, r = some ⟨b, off, none⟩ ∧ b < W.heap.size ∧ W.cell? ⟨b, off, none⟩ = some (.bool t)) := by
  have hlt : ∀ x ∈ ps, x.block < W.heap.size := by obtain ⟨m, hm⟩ := h; exact DataW.trod_lt m _ _ _ hm
  rcases ChangeShapes.open_ptr Try.underlying22 (by rw [cells4]; omega) hval h with ⟨rfl, rfl, rfl⟩ | ⟨b, off, cs, y, fuel, rfl, rfl, rfl, hlen, hcell, hy⟩
  · exact ⟨none, rfl, .inl rfl⟩
  · obtain ⟨t, rfl, rfl⟩ := DataW.trod_bool Try.underlying4 hy
    rw [cells4] at hcell hlt
    have h0 := hcell 0 (by omega)
    refine ⟨_, rfl, .inr ⟨b, off, t, rfl, hlt (.cell b off) (List.mem_append.2 (.inl (MemPlace.mem_row.2 ⟨0, by omega, by simp⟩))), by simpa using h0⟩⟩

set_option maxRecDepth 100000 in
theorem lifted (os : Os) (started : os.Started) (H : Type) (enc : TypeId × Value → H) :
    ReturnsInHanded {} Try.checked os 3 .any (Rows.fnClientCertRequiredUnsetMeansRequiredSpec.pre6 enc Try.prog Try.f3 Rows.fnClientCertRequiredUnsetMeansRequiredRow.domain false) (Rows.fnClientCertRequiredUnsetMeansRequiredSpec.post enc Try.prog Try.f3 false true false false) := by
  refine returnsInHanded_of_change (C := Try.checked) own started (by kernel_rfl) Try.func3
    (ChangeSpec.witness6 (enc := enc) (C := Try.checked) false ⟨#[], #[.string ByteArray.empty, .string ByteArray.empty, .string ByteArray.empty, .string ByteArray.empty, .pointer none, .slice none 0 0], []⟩ 8 (by kernel_rfl) (by kernel_rfl) (by kernel_rfl) (by kernel_rfl)) ?_
  intro W base args ds gs before hval0 hW hcnd _
  have hval : ∀ (j : Nat) t v, Try.f3.params[j]? = some t → args[j]? = some v → Value.okWide Try.prog W .any base t v := hval0
  have hW' := hW
  obtain ⟨p, q, hA0, hV, rfl, hfz, hnd⟩ := hW
  have hA : DataW.TrodAll enc Try.prog W 0 (fun _ => true) true Try.f3.params.toList args.toList ds p := hA0
  rw [Try.params3] at hA hval
  obtain ⟨v0, vs0, d0, ds0, p0, q0, hargs, rfl, rfl, h0, r0⟩ := trodAll_cons hA
  obtain ⟨v1, vs1, d1, ds1, p1, q1, rfl, rfl, rfl, h1, r1⟩ := trodAll_cons r0
  obtain ⟨v2, vs2, d2, ds2, p2, q2, rfl, rfl, rfl, h2, r2⟩ := trodAll_cons r1
  obtain ⟨v3, vs3, d3, ds3, p3, q3, rfl, rfl, rfl, h3, r3⟩ := trodAll_cons r2
  obtain ⟨v4, vs4, d4, ds4, p4, q4, rfl, rfl, rfl, h4, r4⟩ := trodAll_cons r3
  obtain ⟨v5, vs5, d5, ds5, p5, q5, rfl, rfl, rfl, h5, r5⟩ := trodAll_cons r4
  obtain ⟨rfl, rfl, rfl⟩ := trodAll_nil r5
  obtain rfl : args = #[v0, v1, v2, v3, v4, v5] := by cases args; simp_all
  obtain ⟨rfl, rfl⟩ := trodVars_none hV
  obtain ⟨s0, rfl, rfl, rfl, hs0⟩ := open_string Try.underlying9 (hval 0 9 v0 rfl rfl) h0
  obtain ⟨s1, rfl, rfl, rfl, hs1⟩ := open_string Try.underlying9 (hval 1 9 v1 rfl rfl) h1
  obtain ⟨s2, rfl, rfl, rfl, hs2⟩ := open_string Try.underlying9 (hval 2 9 v2 rfl rfl) h2
  obtain ⟨s3, rfl, rfl, rfl, hs3⟩ := open_string Try.underlying9 (hval 3 9 v3 rfl rfl) h3
  obtain ⟨r, rfl, hq⟩ := open_req (hval 4 22 v4 rfl rfl) h4
  obtain ⟨a5, len5, cap5, rfl⟩ := okWide_slice Try.underlying23 (hval 5 23 v5 rfl rfl)
  obtain ⟨hr, hlo⟩ := open_rows h5
  have lt4 : ∀ x ∈ p4, x.block < W.heap.size := by obtain ⟨m, hm⟩ := h4; exact DataW.trod_lt m _ _ _ hm
  have lt5 : ∀ x ∈ p5, x.block < W.heap.size := by obtain ⟨m, hm⟩ := h5; exact DataW.trod_lt m _ _ _ hm
  clear hA0 hval0
  refine (walk s0 s1 s2 s3 r a5 len5 cap5 W hr hlo hq).mono fun e W' ⟨he, bel⟩ => ?_
  subst he
  exact ⟨_, rfl, _, _, _, [], _, [], hW', trodAll_mk1 (shut_bool Try.underlying4 _), (trodAll_cons_mk (shut_string Try.underlying9 hs0) (trodAll_cons_mk (shut_string Try.underlying9 hs1) (trodAll_cons_mk (shut_string Try.underlying9 hs2) (trodAll_cons_mk (shut_string Try.underlying9 hs3) (trodAll_cons_mk (Below.trod laidOut (by kernel_rfl) (of_decide_eq_true (by kernel_rfl)) h4 bel lt4) (trodAll_cons_mk (Below.trod laidOut (by kernel_rfl) (of_decide_eq_true (by kernel_rfl)) h5 bel lt5) trodAll_mk0)))))), rfl, bel.frame _, fun h => by cases h⟩

theorem over : Rows.fnClientCertRequiredUnsetMeansRequiredRow.holds Try.pinned (OpenSpec.ofChange Rows.fnClientCertRequiredUnsetMeansRequiredSpec) :=
  OpenClaim.holds_of_wide 3 Try.f3 rfl rfl rfl rfl rfl rfl rfl ⟨rfl, rfl, rfl, rfl, rfl⟩ rfl rfl rfl rfl rfl (by kernel_rfl) Try.func3 (by kernel_rfl)
    (of_decide_eq_true (by kernel_rfl)) (by unfold Func.isWrapper; first | (rw [if_pos (by decide +kernel)]; kernel_rfl) | (rw [if_neg (by decide +kernel)]; exact ⟨rfl, rfl⟩))
    (fun os started H enc _ => lifted os started H enc)

/-- THE STATEMENT -/
theorem proved : Rows.FnClientCertRequiredUnsetMeansRequiredSaid := over
#print axioms proved
end Go.Proofs.Qxb6612550a
