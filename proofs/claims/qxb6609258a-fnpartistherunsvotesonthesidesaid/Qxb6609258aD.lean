import Derived.Test.Qxb6609258aC
import Derived.RegionTactic
import Derived.BigRegion
namespace Go.Proofs.Qxb6609258a
open Go.ChangeShapes Go.WideShapes Go.ChangeAt Go.RowKit
set_option linter.unusedVariables false

def BuildEnd (n B : Nat) (w0 : World) (gN gL gI : Nat) (h : Nat → Int) (ps : Nat → Nat) (lo hi : Nat) (w : World) (e : Ending) (w' : World) : Prop :=
  ∃ r : Int, e = .returned (.int .i32 r) ∧ -1 ≤ r ∧ r < n ∧ BInv n B w0 gN gL gI w' ∧ (∀ t, Good w gN h t → Good w' gN h t) ∧ ∀ m, lo ≤ m → m < hi → Good w' gN h (ps m)

theorem Good.drew {w : World} {g : Nat} {h : Nat → Int} {t : Nat} (hg : Good w g h t) : Good w.drew g h t := hg

theorem set7 (w : World) (g o : Nat) (v0 v1 v2 v3 v4 v5 v6 : Value) :
    (((((((w.setCell ⟨g, o, none⟩ v0).setCell ⟨g, o + 1, none⟩ v1).setCell ⟨g, o + 2, none⟩ v2).setCell ⟨g, o + 3, none⟩ v3).setCell ⟨g, o + 4, none⟩ v4).setCell ⟨g, o + 5, none⟩ v5).setCell ⟨g, o + 6, none⟩ v6) = w.setCells g o [v0, v1, v2, v3, v4, v5, v6] := by
  simp only [World.setCells, Nat.add_assoc, Nat.reduceAdd]

set_option maxRecDepth 100000 in
set_option maxHeartbeats 4000000 in
theorem build_any {n B : Nat} {w0 : World} {gN gL gI gF gH gP : Nat} {fl h : Nat → Int} {ps : Nat → Nat} (E : Env n B w0 gN gL gI gF gH gP fl h ps) (d : Nat) :
    ∀ (lo hi : Nat) (lI hI par : Int) (w : World), lI = (lo : Int) → hI = (hi : Int) → hi - lo ≤ d → hi ≤ n → lo ≤ n → -1 ≤ par → par ≤ 4096 → BInv n B w0 gN gL gI w →
    Calls Try.prog 19 #[.slice (some ⟨gN, 0, none⟩) n n, .slice (some ⟨gF, 0, none⟩) n n, .slice (some ⟨gH, 0, none⟩) n n, .slice (some ⟨gP, 0, none⟩) n n, .int .i64 lI, .int .i64 hI, .int .i32 par, .slice (some ⟨gL, 0, none⟩) n n, .slice (some ⟨gI, 0, none⟩) n n] w
      (BuildEnd n B w0 gN gL gI h ps lo hi w) := by
  induction d with
  | zero =>
    intro lo hi lI hI par w hl hh hd hhn hln hp1 hp2 hinv
    subst hl hh
    have hge : hi ≤ lo := by omega
    have HF : Hid (BuildEnd n B w0 gN gL gI h ps lo hi w (.returned (.int .i32 (-1))) w) := ⟨-1, rfl, by omega, by omega, hinv, fun t ht => ht, fun m h1 h2 => absurd h2 (by omega)⟩
    clear hinv
    go_enter Try.func19, Try.ntmps19
    go_wp2_with fail
    go_ret
    exact HF.out
  | succ d ih =>
    intro lo hi lI hI par w hl hh hd hhn hln hp1 hp2 hinv
    have IH := hid ih
    clear ih
    by_cases hge : hi ≤ lo
    · subst hl hh
      have HF : Hid (BuildEnd n B w0 gN gL gI h ps lo hi w (.returned (.int .i32 (-1))) w) := ⟨-1, rfl, by omega, by omega, hinv, fun t ht => ht, fun m h1 h2 => absurd h2 (by omega)⟩
      clear hinv
      go_enter Try.func19, Try.ntmps19
      go_wp2_with fail
      go_ret
      exact HF.out
    · subst hl hh
      have hlt : lo < hi := by omega
      clear hge
      have HV := hid hinv
      clear hinv
      have hn := E.hn
      obtain ⟨mN, hm1, hm2, hmE, hmN⟩ : ∃ mN : Nat, lo ≤ mN ∧ mN < hi ∧ ((lo : Int) + ((hi : Int) - (lo : Int)) / 2 = (mN : Int)) ∧ lo + (hi - lo) / 2 = mN := ⟨lo + (hi - lo) / 2, by omega, by omega, by omega, rfl⟩
      obtain ⟨cP', _⟩ := (KRow.of_block E.hP HV.out.1.size (HV.out.1.block gP E.bP)).2 mN (by omega)
      have cP : w.cell? ⟨gP, mN, none⟩ = some (.int .i64 (ps mN : Int)) := cP'
      clear cP'
      have hpm : ps mN < n := E.hps mN (by omega)
      have hpI : (ps mN : Int) ≤ 4096 := by omega
      go_enter Try.func19, Try.ntmps19
      go_wp2_with fail
      refine (IH.out lo mN _ _ _ w rfl rfl (by omega) (by omega) (by omega) (by omega) (by omega) HV.out).mono ?_
      rintro e w1 ⟨l, rfl, hl1, hl2, hv1, hgd1, hm1'⟩
      have V1 := hid hv1
      have G1 := hid hgd1
      have M1 := hid hm1'
      clear hv1 hgd1 hm1'
      go_wp2_with fail
      refine (IH.out (mN + 1) hi _ _ _ w1 (by omega) rfl (by omega) (by omega) (by omega) (by omega) (by omega) V1.out).mono ?_
      rintro e w2 ⟨r, rfl, hr1, hr2, hv2, hgd2, hm2'⟩
      have V2 := hid hv2
      have G2 : Hid (∀ t, Good w gN h t → Good w2 gN h t) := fun t ht => hgd2 t (G1.out t ht)
      have M2 : Hid (∀ m, lo ≤ m → m < hi → m ≠ mN → Good w2 gN h (ps m)) := fun m h1 h2 h3 => by
        by_cases c : m < mN
        · exact hgd2 _ (M1.out m h1 c)
        · exact hm2' m (by omega) h2
      clear hv2 hgd2 hm2' V1 G1 M1 HV IH cP hmE hmN
      have cF := ((KRow.of_block E.hF V2.out.1.size (V2.out.1.block gF E.bF)).2 (ps mN) hpm).1
      have cH := ((KRow.of_block E.hH V2.out.1.size (V2.out.1.block gH E.bH)).2 (ps mN) hpm).1
      generalize hpt : ps mN = t at *
      have HPT := hid hpt
      clear hpt
      have ht0 : (0 : Int) ≤ (t : Int) := by omega
      have htn : (t : Int) < (n : Int) := by omega
      go_upto_if 70 with fail
      go_cut [23, 24] (fun x y wx => (∃ a b : Int, x = .int .u64 a ∧ y = .int .u64 b) ∧ wx = w2)
      case first =>
        by_cases hl0 : 0 ≤ l
        · obtain ⟨lN, rfl⟩ := Int.eq_ofNat_of_zero_le hl0
          obtain ⟨⟨_, _, c, d', _, _, _, _, _, c2, c3, _, _, _⟩, _⟩ := V2.out.2.1 lN (by omega)
          by_cases e1 : c < fl t
          · by_cases e2 : fl t < d'
            · go_wp2_with fail
              go_meet
              case rel => exact ⟨⟨_, _, rfl, rfl⟩, rfl⟩
            · go_wp2_with fail
              go_meet
              case rel => exact ⟨⟨_, _, rfl, rfl⟩, rfl⟩
          · by_cases e2 : fl t < d'
            · go_wp2_with fail
              go_meet
              case rel => exact ⟨⟨_, _, rfl, rfl⟩, rfl⟩
            · go_wp2_with fail
              go_meet
              case rel => exact ⟨⟨_, _, rfl, rfl⟩, rfl⟩
        · go_wp2_with fail
          go_meet
          case rel => exact ⟨⟨_, _, rfl, rfl⟩, rfl⟩
      case rest =>
        obtain ⟨⟨a, b, rfl, rfl⟩, rfl⟩ := hcut
        go_upto_if 96 with fail
        go_cut [23, 24] (fun x y wx => (∃ a b : Int, x = .int .u64 a ∧ y = .int .u64 b) ∧ wx = wc)
        case first =>
          by_cases hr0 : 0 ≤ r
          · obtain ⟨rN, rfl⟩ := Int.eq_ofNat_of_zero_le hr0
            obtain ⟨⟨_, _, c, d', _, _, _, _, _, c2, c3, _, _, _⟩, _⟩ := V2.out.2.1 rN (by omega)
            by_cases e1 : c < a
            · by_cases e2 : b < d'
              · go_wp2_with fail
                go_meet
                case rel => exact ⟨⟨_, _, rfl, rfl⟩, rfl⟩
              · go_wp2_with fail
                go_meet
                case rel => exact ⟨⟨_, _, rfl, rfl⟩, rfl⟩
            · by_cases e2 : b < d'
              · go_wp2_with fail
                go_meet
                case rel => exact ⟨⟨_, _, rfl, rfl⟩, rfl⟩
              · go_wp2_with fail
                go_meet
                case rel => exact ⟨⟨_, _, rfl, rfl⟩, rfl⟩
          · go_wp2_with fail
            go_meet
            case rel => exact ⟨⟨_, _, rfl, rfl⟩, rfl⟩
        case rest =>
          obtain ⟨⟨a', b', rfl, rfl⟩, rfl⟩ := hcut
          obtain ⟨⟨n0, n1, n2, n3, n4, n5, n6, q0, q1, q2, q3, q4, q5, q6⟩, hfz⟩ := V2.out.2.1 t hpm
          have f0 : wc.frozen? ⟨gN, t * 7, none⟩ = false := hfz 0 (by omega)
          have f1 := hfz 1 (by omega)
          have f2 := hfz 2 (by omega)
          have f3 := hfz 3 (by omega)
          have f4 := hfz 4 (by omega)
          have f5 := hfz 5 (by omega)
          have f6 := hfz 6 (by omega)
          have HZ := hid hfz
          clear hfz
          go_upto_region 19 with fail
          go_region
          generalize hW : World.drew _ = W3
          have B3 : Hid (BInv n B w0 gN gL gI W3) := by
            rw [← hW, set7]; exact (V2.out.node E.bN E.nNL E.nNI hpm (fl t) (h t) a' b' l r par).drew
          have G3 : Hid (Good W3 gN h t ∧ ∀ t', Good wc gN h t' → Good W3 gN h t') := by
            rw [← hW, set7]; exact ⟨(Good.node V2.out.2.1 hpm (fl t) a' b' l r par).1.drew, fun t' ht' => ((Good.node V2.out.2.1 hpm (fl t) a' b' l r par).2 t' ht').drew⟩
          clear hW q0 q1 q2 q3 q4 q5 q6 f0 f1 f2 f3 f4 f5 f6 HZ cF cH
          obtain ⟨⟨z1, k1⟩, j1⟩ := B3.out.2.2.1 t hpm
          go_upto_region 21 with fail
          generalize hW : World.setCell _ _ _ = W4
          have B4 : Hid (BInv n B w0 gN gL gI W4) := by
            rw [← hW]; exact B3.out.setL E.bL E.nNL E.nLI _
          have G4 : Hid (Good W4 gN h t ∧ ∀ t', Good wc gN h t' → Good W4 gN h t') := by
            rw [← hW]; exact ⟨G3.out.1.other E.nNL _ _, fun t' ht' => (G3.out.2 t' ht').other E.nNL _ _⟩
          clear hW k1 j1
          obtain ⟨⟨z2, k2⟩, j2⟩ := B4.out.2.2.2 t hpm
          have HF : Hid (BuildEnd n B w0 gN gL gI h ps lo hi w (.returned (.int .i32 (t : Int))) (W4.setCell ⟨gI, t, none⟩ (.int .i64 (hi : Int)))) := by
            refine ⟨t, rfl, by omega, htn, B4.out.setI E.bI E.nNI E.nLI _, fun t' ht' => (G4.out.2 t' (G2.out t' ht')).other E.nNI _ _, fun m hm hm' => ?_⟩
            by_cases e : m = mN
            · subst e; rw [HPT.out]; exact G4.out.1.other E.nNI _ _
            · exact (G4.out.2 _ (M2.out m hm hm' e)).other E.nNI _ _
          go_wp2_with fail
          go_ret
          exact HF.out
end Go.Proofs.Qxb6609258a
