/-
  The witness of the stretch law: the input of Qxb6601308aWit9.lean, of zero floats and two empty lists, built by hand (no reckoning over its 2412 cells).
-/
import Derived.Test.Qxb6601308aRows
import Derived.WalkKit
import Derived.ProofKit
import Derived.Laws.Cover2
import Derived.Test.Qxb6601308aWit9
namespace Go.Proofs.Qxb6601308a.wit
set_option linter.unusedVariables false
open Go.ChangeShapes Go.WideShapes Go.ChangeAt Go.RowKit
theorem hok7 (w : World) (base : Nat) : Input.okWide Try.prog w .any base 7 ⟨#[], wargs, []⟩ :=
  ⟨fun o ho => by simp at ho, fun g hg => by simp at hg, by kernel_rfl, Try.f7, Try.func7, rfl, rfl, rfl, rfl, fun j t v ht hv => vals w base j t v (by rw [← ht]; rfl) hv⟩
theorem hpre7 (os : Os) (H : Type) (enc : TypeId × Value → H) : Rows.fnAdvanceMatchesStretchModelSpec.preB enc Try.checked.prog Try.f7 Rows.fnAdvanceMatchesStretchModelRow.domain false (World.plainHolding Try.checked.prog os winp).memory winp.args 8 = true := by kernel_rfl
theorem hsz7 (os : Os) (H : Type) (enc : TypeId × Value → H) : Rows.fnAdvanceMatchesStretchModelSpec.sizedB enc Try.checked.prog Try.f7 false (World.plainHolding Try.checked.prog os winp).memory winp.args 8 = true := by kernel_rfl
theorem wit7 (os : Os) (H : Type) (enc : TypeId × Value → H) : ∃ (w : World) (tape : Tape) (i : Input), w.os = os ∧ (w.forCall tape i).Shaped Try.checked.prog ∧ i.vars = [] ∧ Input.okWide Try.checked.prog (w.forCall tape i) .any w.heap.size 7 i ∧
      Rows.fnAdvanceMatchesStretchModelSpec.pre6 enc Try.checked.prog Try.f7 Rows.fnAdvanceMatchesStretchModelRow.domain false (w.forCall tape i).memory i.args ∧ ({ modest := false } : Assume).holds Try.checked.prog (lone (Frame.enter Try.checked.prog 7 i.args .normal) [] (w.forCall tape i)) :=
  ⟨World.holding Try.checked.prog os winp, fun _ _ => 0, ⟨#[], winp.args, []⟩, rfl, World.shaped_of_B (hv os) (hr os), rfl, hok7 _ _, ⟨ChangeSpec.pre_of_preB (hpre7 os H enc), sizedMet_of_sizedB (hsz7 os H enc)⟩, by
    simp only [Assume.holds]
    exact ⟨by simp, by simp, fun _ => Modest.zero, by simp, by simp⟩⟩
end Go.Proofs.Qxb6601308a.wit
