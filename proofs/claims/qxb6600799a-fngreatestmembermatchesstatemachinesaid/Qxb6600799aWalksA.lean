import Derived.Test.Qxb6600799aRows
import Derived.WalkKit
import Derived.ProofKit
import Derived.WalkLawsBesides
import Derived.WalkSpells
import Derived.Test.Qxb6600799aPlain
namespace Go.Proofs.Qxb6600799a.Gm
open Go.ChangeShapes Go.WideShapes Go.ChangeAt Go.RowKit
set_option linter.unusedVariables false
set_option maxHeartbeats 400000 in
theorem has15 (s p : ByteArray) (w : World) (hs : s.size ≤ maxLen) (hp : p.size ≤ maxLen) :
    Calls Try.prog 15 #[.string s, .string p] w fun e w' => e = .returned (.bool (hasP s p)) ∧ w' = w := by
  unfold maxLen at hs hp
  by_cases h : p.size ≤ s.size
  · go_enter Try.func15, Try.ntmps15
    go_wp2
    go_ret
    exact ⟨by simp [hasP, h], rfl⟩
  · go_enter Try.func15, Try.ntmps15
    go_wp2
    go_ret
    exact ⟨by simp [hasP, h], rfl⟩

set_option maxHeartbeats 400000 in
theorem has13 (s p : ByteArray) (w : World) (hs : s.size ≤ maxLen) (hp : p.size ≤ maxLen) :
    Calls Try.prog 13 #[.string s, .string p] w fun e w' => e = .returned (.bool (hasP s p)) ∧ w' = w := by
  go_enter Try.func13, Try.ntmps13
  go_wp2_with (go_at_call 15; refine (has15 _ _ _ hs hp).mono ?_; rintro e w' ⟨rfl, rfl⟩)
  go_ret
  exact ⟨rfl, rfl⟩

set_option maxHeartbeats 400000 in
theorem cut14_yes (s p : ByteArray) (w : World) (hs : s.size ≤ maxLen) (hp : p.size ≤ maxLen) (h : hasP s p = true) :
    Calls Try.prog 14 #[.string s, .string p] w fun e w' => e = .returned (.tuple #[.string (s.extract p.size s.size), .bool true]) ∧ w' = w := by
  have hle : p.size ≤ s.size := by unfold hasP at h; simp at h; exact h.1
  have hs' := hs
  have hp' := hp
  unfold maxLen at hs' hp'
  go_enter Try.func14, Try.ntmps14
  go_wp2_with (go_at_call 15; refine (has15 _ _ _ hs hp).mono ?_; rintro e w' ⟨rfl, rfl⟩)
  go_ret2
  exact ⟨rfl, rfl⟩

set_option maxHeartbeats 400000 in
theorem cut14_no (s p : ByteArray) (w : World) (hs : s.size ≤ maxLen) (hp : p.size ≤ maxLen) (h : hasP s p = false) :
    Calls Try.prog 14 #[.string s, .string p] w fun e w' => e = .returned (.tuple #[.string s, .bool false]) ∧ w' = w := by
  have hs' := hs
  have hp' := hp
  unfold maxLen at hs' hp'
  go_enter Try.func14, Try.ntmps14
  go_wp2_with (go_at_call 15; refine (has15 _ _ _ hs hp).mono ?_; rintro e w' ⟨rfl, rfl⟩)
  go_ret2
  exact ⟨rfl, rfl⟩

set_option maxHeartbeats 400000 in
theorem cut11_yes (s p : ByteArray) (w : World) (hs : s.size ≤ maxLen) (hp : p.size ≤ maxLen) (h : hasP s p = true) :
    Calls Try.prog 11 #[.string s, .string p] w fun e w' => e = .returned (.tuple #[.string (s.extract p.size s.size), .bool true]) ∧ w' = w := by
  go_enter Try.func11, Try.ntmps11
  go_wp2_with (go_at_call 14; refine (cut14_yes _ _ _ hs hp h).mono ?_; rintro e w' ⟨rfl, rfl⟩)
  go_ret2
  exact ⟨rfl, rfl⟩

set_option maxHeartbeats 400000 in
theorem cut11_no (s p : ByteArray) (w : World) (hs : s.size ≤ maxLen) (hp : p.size ≤ maxLen) (h : hasP s p = false) :
    Calls Try.prog 11 #[.string s, .string p] w fun e w' => e = .returned (.tuple #[.string s, .bool false]) ∧ w' = w := by
  go_enter Try.func11, Try.ntmps11
  go_wp2_with (go_at_call 14; refine (cut14_no _ _ _ hs hp h).mono ?_; rintro e w' ⟨rfl, rfl⟩)
  go_ret2
  exact ⟨rfl, rfl⟩

set_option maxHeartbeats 400000 in
theorem qe12 (s : ByteArray) (w : World) (hs : s.size ≤ 1048576) :
    Calls Try.prog 12 #[.string s] w fun e w' => (e = .returned (.int .i64 (-1)) ∧ QNone s ∨ ∃ k : Nat, e = .returned (.int .i64 k) ∧ QEnd s k) ∧ w' = w := by
  have hm : s.size ≤ maxLen := by unfold maxLen; omega
  have h1 : (⟨#[39]⟩ : ByteArray).size ≤ maxLen := by unfold maxLen; decide
  cases h : hasP s ⟨#[39]⟩ with
  | false =>
    have hqn := qnone_of s h
    go_enter Try.func12, Try.ntmps12
    go_wp2_with (go_at_call 13; refine (has13 _ _ _ hm h1).mono ?_; rintro e w' ⟨rfl, rfl⟩)
    go_ret
    exact ⟨.inl ⟨rfl, hqn⟩, rfl⟩
  | true =>
    obtain ⟨h0, hq1⟩ := qat_one s h
    go_enter Try.func12, Try.ntmps12
    go_wp2_with (go_at_call 13; refine (has13 _ _ _ hm h1).mono ?_; rintro e w' ⟨rfl, rfl⟩)
    clear hm h1 h
    go_loop [3] (fun i => ∃ k : Nat, 1 ≤ k ∧ k ≤ s.size ∧ i = .int .i64 k ∧ QAt s k) (fun i => s.size - (intOf i).toNat)
    case atStart => exact ⟨1, Nat.le_refl _, h0, rfl, hq1⟩
    case round =>
      obtain ⟨k, hk1, hk, rfl, hq⟩ := hrel
      by_cases hlt : k < s.size
      · by_cases hlt1 : k + 1 < s.size
        · go_wp2
          · go_round
            case rel => exact ⟨k + 1, by omega, by omega, by go_num, qat_other s k hlt hq (ne39 _ ‹_›)⟩
            case measure => simp [intOf]; omega
          · go_round
            case rel => exact ⟨k + 1 + 1, by omega, by omega, by go_num, qat_two s k hlt hlt1 hq (eq39 _ ‹_›) (yes39 _ ‹_›)⟩
            case measure => simp [intOf]; omega
          · go_ret
            exact ⟨.inr ⟨k, rfl, qend_of s k hlt hq (eq39 _ ‹_›) (fun _ => no39 _ ‹_›)⟩, rfl⟩
        · go_wp2
          · go_round
            case rel => exact ⟨k + 1, by omega, by omega, by go_num, qat_other s k hlt hq (ne39 _ ‹_›)⟩
            case measure => simp [intOf]; omega
          · go_ret
            exact ⟨.inr ⟨k, rfl, qend_of s k hlt hq (eq39 _ ‹_›) (fun h => absurd h hlt1)⟩, rfl⟩
      · go_wp2
        go_ret
        exact ⟨.inl ⟨rfl, qnone_end s k hlt hq⟩, rfl⟩
end Go.Proofs.Qxb6600799a.Gm
