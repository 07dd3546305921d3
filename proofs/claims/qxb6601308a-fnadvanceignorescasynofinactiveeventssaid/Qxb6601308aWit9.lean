/-
  The witnesses of the two laws: an input of zero floats and two empty lists, built by hand (no reckoning over its 2412 cells).
-/
import Derived.Test.Qxb6601308aRows
import Derived.WalkKit
import Derived.ProofKit
import Derived.Laws.Cover2
import Derived.Test.Qxb6601308aOpen
namespace Go.Proofs.Qxb6601308a.wit
set_option linter.unusedVariables false
open Go.ChangeShapes Go.WideShapes Go.ChangeAt Go.RowKit
def wargs : Array Value := #[.float .f64 0, .agg (Array.replicate 2412 (.float .f64 0)), .agg (Array.replicate 400 (.float .f64 0)), .agg (Array.replicate 4 (.float .f64 0)), .slice none 0 0, .slice none 0 0]
def winp : Input := ⟨#[], wargs, []⟩
theorem cell0 (w : World) (base : Nat) : Cell.okWide Try.prog w .any base 22 (.float .f64 0) := by
  unfold Cell.okWide
  simp [Try.underlying22, Cell.ok, FloatKind.has]
theorem val0 (w : World) (base : Nat) : Value.okWide Try.prog w .any base 22 (.float .f64 0) := by
  unfold Value.okWide
  rw [Try.underlying22]; exact cell0 w base
theorem slice0 (w : World) (base : Nat) : Value.okWide Try.prog w .any base 42 (.slice none 0 0) := by
  unfold Value.okWide Cell.okWide
  simp [Try.underlying42, Cell.ok]
theorem row0 (w : World) (base t n e : Nat) (hu : Try.prog.underlying t = some (.array n e)) (k : Nat) (hk : 0 < k) (hc : Try.prog.cellsOf t = k) (ht : Try.prog.cellTypes Try.prog.depth t = some (List.replicate k 22)) : Value.okWide Try.prog w .any base t (.agg (Array.replicate k (.float .f64 0))) := by
  unfold Value.okWide
  rw [hu]
  refine ⟨_, rfl, by rw [hc]; simp, _, ht, ⟨1, by simp⟩, ?_⟩
  intro i v hv
  rw [Array.getElem?_replicate] at hv
  split at hv
  · cases hv
    refine ⟨22, ?_, cell0 w base⟩
    rw [List.length_replicate, List.getElem?_replicate, if_pos (Nat.mod_lt _ hk)]
  · cases hv
theorem t38 : Try.prog.cellTypes Try.prog.depth 38 = some (List.replicate 2412 22) := by kernel_rfl
theorem t40 : Try.prog.cellTypes Try.prog.depth 40 = some (List.replicate 400 22) := by kernel_rfl
theorem t41 : Try.prog.cellTypes Try.prog.depth 41 = some (List.replicate 4 22) := by kernel_rfl
theorem vals (w : World) (base j t : Nat) (v : Value) (ht : (#[22, 38, 40, 41, 42, 42] : Array TypeId)[j]? = some t) (hv : wargs[j]? = some v) : Value.okWide Try.prog w .any base t v := by
  match j, ht, hv with
  | 0, ht, hv => cases ht; cases hv; exact val0 w base
  | 1, ht, hv => cases ht; cases hv; exact row0 w base 38 _ _ Try.underlying38 2412 (by omega) Ad.Try.c38 t38
  | 2, ht, hv => cases ht; cases hv; exact row0 w base 40 _ _ Try.underlying40 400 (by omega) Ad.Try.c40 t40
  | 3, ht, hv => cases ht; cases hv; exact row0 w base 41 _ _ Try.underlying41 4 (by omega) Ad.Try.c41 t41
  | 4, ht, hv => cases ht; cases hv; exact slice0 w base
  | 5, ht, hv => cases ht; cases hv; exact slice0 w base
theorem hok9 (w : World) (base : Nat) : Input.okWide Try.prog w .any base 9 ⟨#[], wargs, []⟩ :=
  ⟨fun o ho => by simp at ho, fun g hg => by simp at hg, by kernel_rfl, Try.f9, Try.func9, rfl, rfl, rfl, rfl, fun j t v ht hv => vals w base j t v (by rw [← ht]; rfl) hv⟩
theorem hv (os : Os) : (World.plainHolding Try.checked.prog os winp).variablesB Try.checked.prog = true := by kernel_rfl
theorem hr (os : Os) : ((World.plainHolding Try.checked.prog os winp).heap.toList.drop Try.checked.prog.globals.size).take ((begin Try.checked.prog (fun _ _ => 0) default).world.heap.size - Try.checked.prog.globals.size) =
      (begin Try.checked.prog (fun _ _ => 0) default).world.heap.toList.drop Try.checked.prog.globals.size := by kernel_rfl
theorem hpre9 (os : Os) (H : Type) (enc : TypeId × Value → H) : Rows.fnAdvanceIgnoresCaSynOfInactiveEventsSpec.preB enc Try.checked.prog Try.f9 Rows.fnAdvanceIgnoresCaSynOfInactiveEventsRow.domain false (World.plainHolding Try.checked.prog os winp).memory winp.args 8 = true := by kernel_rfl
theorem hsz9 (os : Os) (H : Type) (enc : TypeId × Value → H) : Rows.fnAdvanceIgnoresCaSynOfInactiveEventsSpec.sizedB enc Try.checked.prog Try.f9 false (World.plainHolding Try.checked.prog os winp).memory winp.args 8 = true := by kernel_rfl
theorem wit9 (os : Os) (H : Type) (enc : TypeId × Value → H) : ∃ (w : World) (tape : Tape) (i : Input), w.os = os ∧ (w.forCall tape i).Shaped Try.checked.prog ∧ i.vars = [] ∧ Input.okWide Try.checked.prog (w.forCall tape i) .any w.heap.size 9 i ∧
      Rows.fnAdvanceIgnoresCaSynOfInactiveEventsSpec.pre6 enc Try.checked.prog Try.f9 Rows.fnAdvanceIgnoresCaSynOfInactiveEventsRow.domain false (w.forCall tape i).memory i.args ∧ ({ modest := false } : Assume).holds Try.checked.prog (lone (Frame.enter Try.checked.prog 9 i.args .normal) [] (w.forCall tape i)) :=
  ⟨World.holding Try.checked.prog os winp, fun _ _ => 0, ⟨#[], winp.args, []⟩, rfl, World.shaped_of_B (hv os) (hr os), rfl, hok9 _ _, ⟨ChangeSpec.pre_of_preB (hpre9 os H enc), sizedMet_of_sizedB (hsz9 os H enc)⟩, by
    simp only [Assume.holds]
    exact ⟨by simp, by simp, fun _ => Modest.zero, by simp, by simp⟩⟩
end Go.Proofs.Qxb6601308a.wit
