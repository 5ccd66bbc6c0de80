import Derived.Test.Qxb6612597aFmtWk
namespace Go.Proofs.Qxb6612597aFmt
open Go.RowKit Go.Extern.Stop Go.Stop Go.Extern
set_option linter.unusedVariables false

/-! ### fmt's stop: the closed facts that the walk over fmt.errorf asks (after the guide's CheckFmt.lean, at this dump's numbers) -/
theorem call10 (args : Array Value) (w : World) : (callFunc 10 args).run Tryf.prog w = ((FmtStop.errorf #[9, 42] #[35] args).run Tryf.prog w).andThen fun v w' => .ok (.value v) w' :=
  run_callFunc_extern Tryf.func10 (by kernel_rfl) (by kernel_rfl) (by kernel_rfl) (by kernel_rfl) args w
theorem guardOk (name : String) (w : World) : (FmtStop.guard name).run Tryf.prog w = .ok () w := by kernel_rfl
theorem fmt4r (w : World) : (FmtDoors.printed ⟨#[115, 108, 111, 116, 32, 37, 100, 58, 32, 116, 104, 101, 32, 98, 108, 111, 99, 107, 32, 99, 97, 114, 114, 105, 101, 115, 32, 110, 111, 32, 37, 115, 44, 32, 97, 115, 32, 101, 118, 101, 114, 121, 32, 98, 108, 111, 99, 107, 32, 102, 114, 111, 109, 32, 116, 104, 101, 32, 37, 115, 32, 102, 111, 114, 107, 32, 111, 110, 32, 100, 111, 101, 115, 58, 32, 100, 97, 116, 97, 46, 109, 101, 115, 115, 97, 103, 101, 46, 98, 111, 100, 121, 46, 37, 115, 32, 105, 115, 32, 109, 105, 115, 115, 105, 110, 103]⟩ 4).run Tryf.prog w = .ok [(0, 100, false), (1, 115, false), (2, 115, false), (3, 115, false)] w := by kernel_rfl
theorem fmt4 : FmtStop.printed? ⟨#[115, 108, 111, 116, 32, 37, 100, 58, 32, 116, 104, 101, 32, 98, 108, 111, 99, 107, 32, 99, 97, 114, 114, 105, 101, 115, 32, 110, 111, 32, 37, 115, 44, 32, 97, 115, 32, 101, 118, 101, 114, 121, 32, 98, 108, 111, 99, 107, 32, 102, 114, 111, 109, 32, 116, 104, 101, 32, 37, 115, 32, 102, 111, 114, 107, 32, 111, 110, 32, 100, 111, 101, 115, 58, 32, 100, 97, 116, 97, 46, 109, 101, 115, 115, 97, 103, 101, 46, 98, 111, 100, 121, 46, 37, 115, 32, 105, 115, 32, 109, 105, 115, 115, 105, 110, 103]⟩ 4 = some [(0, 100, false), (1, 115, false), (2, 115, false), (3, 115, false)] := by kernel_rfl
def shape9 : List UInt8 := [12, 6, 0, 0, 0, 0, 0, 0, 0, 115, 116, 114, 105, 110, 103]
theorem op9_115 (name : String) (x : ByteArray) (w : World) : (FmtStop.operand name false 115 false (.iface 9 (.string x))).run Tryf.prog w = .ok (shape9, FmtStop.pack x.data.toList) w := by kernel_rfl
theorem op9_115w (name : String) (x : ByteArray) (w : World) : (FmtStop.operand name true 115 false (.iface 9 (.string x))).run Tryf.prog w = .ok (shape9, FmtStop.pack x.data.toList) w := by kernel_rfl
def shape22 : List UInt8 := [9, 6, 0, 0, 0, 0, 0, 0, 0, 117, 105, 110, 116, 54, 52]
theorem op22_100 (name : String) (x : Int) (w : World) : (FmtStop.operand name false 100 false (.iface 22 (.int .u64 x))).run Tryf.prog w = .ok (shape22, Go.Extern.Stop.digits 8 (x % 2 ^ 64).toNat) w := by kernel_rfl
theorem op22_100w (name : String) (x : Int) (w : World) : (FmtStop.operand name true 100 false (.iface 22 (.int .u64 x))).run Tryf.prog w = .ok (shape22, Go.Extern.Stop.digits 8 (x % 2 ^ 64).toNat) w := by kernel_rfl
theorem ptr45 (w : World) : (FmtStop.ptrTo "errors.errorString").run Tryf.prog w = .ok 45 w := by kernel_rfl
theorem elem45 (w : World) : (elemOf 45).run Tryf.prog w = .ok 47 w := by kernel_rfl
theorem isError45 (w : World) : (FmtDoors.textMethod 45 "Error").run Tryf.prog w = .ok true w := by kernel_rfl
attribute [local go_sem] call10 guardOk fmt4r fmt4 op9_115 op9_115w op22_100 op22_100w ptr45 elem45 isError45

set_option maxHeartbeats 1000000 in
theorem errorf_any (F : Interp) (s : Int) (a b c : ByteArray) (w : World) (B : Nat) (hB : B = w.heap.size) (hF : F.answers w.tape) :
    Calls Tryf.prog 9 #[.string ⟨#[115, 108, 111, 116, 32, 37, 100, 58, 32, 116, 104, 101, 32, 98, 108, 111, 99, 107, 32, 99, 97, 114, 114, 105, 101, 115, 32, 110, 111, 32, 37, 115, 44, 32, 97, 115, 32, 101, 118, 101, 114, 121, 32, 98, 108, 111, 99, 107, 32, 102, 114, 111, 109, 32, 116, 104, 101, 32, 37, 115, 32, 102, 111, 114, 107, 32, 111, 110, 32, 100, 111, 101, 115, 58, 32, 100, 97, 116, 97, 46, 109, 101, 115, 115, 97, 103, 101, 46, 98, 111, 100, 121, 46, 37, 115, 32, 105, 115, 32, 109, 105, 115, 115, 105, 110, 103]⟩, .slice (some ⟨B, 0, none⟩) 4 4]
      (w.alloc (.cells #[.iface 22 (.int .u64 s), .iface 9 (.string a), .iface 9 (.string b), .iface 9 (.string c)] 20)) fun e w' => ∃ x, e = .returned (.iface 45 (.pointer (some x))) ∧ Below w.heap.size w w' := by
  subst hB
  have hF' := hF
  unfold Go.Stop.Interp.answers at hF'
  clear hF
  go_enter Tryf.func9, Tryf.ntmps9
  go_wp2
  go_ret
  exact ⟨_, rfl, (((Below.refl _ _).alloc (Nat.le_refl _) _).alloc (by simp) _).drew⟩
end Go.Proofs.Qxb6612597aFmt
