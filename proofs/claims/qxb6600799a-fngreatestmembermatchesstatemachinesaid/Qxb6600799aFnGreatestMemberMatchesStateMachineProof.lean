/-
  'Rows.FnGreatestMemberMatchesStateMachineSaid': the guide's frame at this function's number and types, the walk filled in (Qxb6600799aPlain, WalksA, WalksB, WalksC).
-/
import Derived.Test.Qxb6600799aRows
import Derived.Test.Qxb6600799aWalksC
import Derived.WalkKit
import Derived.ProofKit
import Derived.OpenShut
import Derived.ShutString
namespace Go.Proofs.Qxb6600799a.fnGreatestMemberMatchesStateMachine
open Go.ChangeShapes Go.WideShapes Go.ChangeAt Go.RowKit
open Go.ChangeMaps (open_string shut_string)
set_option linter.unusedVariables false      -- a walk need not use every 'w<i>' (that an integer argument fits its kind)

theorem own : ownKnob Try.prog.godebug = none := by kernel_rfl

/-! ### STEP 1: THE WALK: the Go text returns true. 'Grown w w'': the world has at most new blocks (Derived/RowKit3.lean). Part the cases AHEAD of 'go_enter' where a test parts the walk; take each callee by a contract of your own. -/
theorem gm6 (s : ByteArray) (w : World) (v : Int) (b : Bool) (h : Calls Try.prog 10 #[.string s] w fun e w' => e = .returned (.tuple #[.int .u64 v, .bool b]) ∧ w' = w) :
    Calls Try.prog 6 #[.string s] w fun e w' => e = .returned (.tuple #[.int .u64 v, .bool b]) ∧ w' = w := by
  have H : Gm.Box (Calls Try.prog 10 #[.string s] w fun e w' => e = .returned (.tuple #[.int .u64 v, .bool b]) ∧ w' = w) := ⟨h⟩
  clear h
  go_enter Try.func6, Try.ntmps6
  go_wp2_with fail
  refine H.out.mono ?_
  rintro e w' ⟨rfl, rfl⟩
  go_wp2_with fail
  go_ret2
  exact ⟨rfl, rfl⟩

/-- both sides answer alike: then the law says true -/
theorem joined (s : ByteArray) (w : World) (hs : s.size ≤ 1048576) (v : Int) (b : Bool)
    (h10 : Calls Try.prog 10 #[.string s] w fun e w' => e = .returned (.tuple #[.int .u64 v, .bool b]) ∧ w' = w)
    (h7 : Calls Try.prog 7 #[.string s] w fun e w' => e = .returned (.tuple #[.int .u64 v, .bool b]) ∧ w' = w) :
    Calls Try.prog 3 #[.string s] w fun e w' => e = .returned (.bool true) ∧ Grown w w' := by
  have H6 : Gm.Box (Calls Try.prog 6 #[.string s] w fun e w' => e = .returned (.tuple #[.int .u64 v, .bool b]) ∧ w' = w) := ⟨gm6 s w v b h10⟩
  have H7 : Gm.Box (Calls Try.prog 7 #[.string s] w fun e w' => e = .returned (.tuple #[.int .u64 v, .bool b]) ∧ w' = w) := ⟨h7⟩
  clear h10 h7
  go_enter Try.func3, Try.ntmps3
  go_wp2_with (first | (go_at_call 5; go_in))
  refine H6.out.mono ?_
  rintro e w' ⟨rfl, rfl⟩
  go_wp2_with fail
  refine H7.out.mono ?_
  rintro e w' ⟨rfl, rfl⟩
  go_wp2_with fail
  go_ret
  exact ⟨by simp, Grown.refl _⟩

theorem walk (a0 : ByteArray) (w0 : a0.size ≤ maxLen) (w : World) :
    Calls Try.prog 3 #[.string a0] w fun e w' => e = .returned (.bool true) ∧ Grown w w' := by
  by_cases hs : a0.size ≤ 1048576
  · cases h4 : Gm.hasP a0 ⟨#[115, 101, 116, 40]⟩ with
    | true => exact joined a0 w hs _ _ (Gm.gm10_set a0 w hs h4 _ rfl) (Gm.model7_set a0 w hs h4 _ rfl)
    | false =>
      cases h5 : Gm.hasP a0 ⟨#[101, 110, 117, 109, 40]⟩ with
      | true =>
        have e4 : ((a0.extract 0 4).toList == [115, 101, 116, 40]) = false := by
          rcases Gm.set_no a0 h4 with h | ⟨_, h⟩
          · have := (Gm.enum_yes a0 h5).1; omega
          · exact h
        exact joined a0 w hs _ _ (Gm.gm10_enum a0 w hs h4 h5 _ rfl) (Gm.model7_enum a0 w hs e4 h5 _ rfl)
      | false => exact joined a0 w hs _ _ (Gm.gm10_none a0 w hs h4 h5) (Gm.model7_none a0 w hs h4 h5)
  · unfold maxLen at w0
    go_enter Try.func3, Try.ntmps3
    go_wp2
    go_ret
    exact ⟨rfl, Grown.refl _⟩

/-! ### THE ROW's STEP: WRITTEN OUT: LEAVE IT -/
set_option maxRecDepth 100000 in
theorem lifted (os : Os) (started : os.Started) (H : Type) (enc : TypeId × Value → H) :
    ReturnsInHanded {} Try.checked os 3 .any (Rows.fnGreatestMemberMatchesStateMachineSpec.pre6 enc Try.prog Try.f3 Rows.fnGreatestMemberMatchesStateMachineRow.domain false) (Rows.fnGreatestMemberMatchesStateMachineSpec.post enc Try.prog Try.f3 false true false false) := by
  refine returnsInHanded_of_change (C := Try.checked) own started (by kernel_rfl) Try.func3
    (ChangeSpec.witness6 (enc := enc) (C := Try.checked) false ⟨#[], #[.string ByteArray.empty], []⟩ 8 (by kernel_rfl) (by kernel_rfl) (by kernel_rfl) (by kernel_rfl)) ?_
  intro W base args ds gs before hval0 hW hcnd _
  have hval : ∀ (j : Nat) t v, Try.f3.params[j]? = some t → args[j]? = some v → Value.okWide Try.prog W .any base t v := hval0
  have hW' := hW
  obtain ⟨p, q, hA0, hV, rfl, hfz, hnd⟩ := hW
  have hA : DataW.TrodAll enc Try.prog W 0 (fun _ => true) true Try.f3.params.toList args.toList ds p := hA0
  rw [Try.params3] at hA hval
  obtain ⟨v0, vs0, d0, ds0, p0, q0, hargs, rfl, rfl, h0, r0⟩ := trodAll_cons hA
  obtain ⟨rfl, rfl, rfl⟩ := trodAll_nil r0
  obtain rfl : args = #[v0] := by cases args; simp_all
  obtain ⟨rfl, rfl⟩ := trodVars_none hV
  obtain ⟨a0, rfl, rfl, rfl, w0⟩ := open_string Try.underlying9 (hval 0 9 v0 rfl rfl) h0
  clear hA0 hval0
  simp only [List.append_nil] at hW'
  refine (walk a0 w0 W).mono fun e W' ⟨he, hg⟩ => ?_
  subst he
  exact ⟨_, rfl, post_of_same (pa := []) (pv := []) hW' (fun _ _ _ => (trodAll_cons_mk (shut_bool Try.underlying4 _) trodAll_mk0)) (fun sp _ => (trodAll_cons_mk (shut_string Try.underlying9 w0) trodAll_mk0)) (fun _ _ => rfl) rfl
    (hg.frame _) hg.2.1 (ok_one (by kernel_rfl) rfl (okWide_bool_mk Try.underlying4 _))⟩

theorem over : Rows.fnGreatestMemberMatchesStateMachineRow.holds Try.pinned (OpenSpec.ofChange Rows.fnGreatestMemberMatchesStateMachineSpec) :=
  OpenClaim.holds_of_wide 3 Try.f3 rfl rfl rfl rfl rfl rfl rfl ⟨rfl, rfl, rfl, rfl, rfl⟩ rfl rfl rfl rfl rfl (by kernel_rfl) Try.func3 (by kernel_rfl)
    (of_decide_eq_true (by kernel_rfl)) (by unfold Func.isWrapper; first | (rw [if_pos (by decide +kernel)]; kernel_rfl) | (rw [if_neg (by decide +kernel)]; exact ⟨rfl, rfl⟩))
    (fun os started H enc _ => lifted os started H enc)

/-- ████ THE STATEMENT ████ -/
theorem proved : Rows.FnGreatestMemberMatchesStateMachineSaid :=
  over
end Go.Proofs.Qxb6600799a.fnGreatestMemberMatchesStateMachine
