import Derived.Test.Qxb6600799aWalksA
namespace Go.Proofs.Qxb6600799a.Gm
open Go.ChangeShapes Go.WideShapes Go.ChangeAt Go.RowKit
set_option linter.unusedVariables false
def szOf : Value → Nat
  | .string s => s.size
  | _ => 0
theorem szOf_string (s : ByteArray) : szOf (.string s) = s.size := rfl
theorem pow_le (n : Nat) (h : n < 64) : (2 : Int) ^ n ≤ 9223372036854775808 ∧ 1 ≤ (2 : Int) ^ n := by
  have h1 : 2 ^ n ≤ 2 ^ 63 := Nat.pow_le_pow_right (by omega) (by omega)
  have h2 : 1 ≤ 2 ^ n := Nat.one_le_two_pow
  have e : ((2 ^ n : Nat) : Int) = (2 : Int) ^ n := by simp
  rw [← e]
  have : (2 : Nat) ^ 63 = 9223372036854775808 := by decide
  omega
theorem ones_wrap (n : Nat) (h : n < 64) : IntKind.u64.wrap (IntKind.u64.wrap ((2 : Int) ^ n) - 1) = (2 : Int) ^ n - 1 := by
  have ⟨h1, h2⟩ := pow_le n h
  generalize (2 : Int) ^ n = p at *
  have e : IntKind.u64.wrap p = p := IntWalk.u64_in p ⟨by omega, by omega⟩
  rw [e]
  exact IntWalk.u64_in _ ⟨by omega, by omega⟩

set_option maxHeartbeats 400000 in
theorem gm10_enum (s : ByteArray) (w : World) (hs : s.size ≤ 1048576) (h4 : hasP s ⟨#[115, 101, 116, 40]⟩ = false) (h5 : hasP s ⟨#[101, 110, 117, 109, 40]⟩ = true) (R : Option Nat) (hR : RunsTo (s.extract 5 s.size) 0 R) :
    Calls Try.prog 10 #[.string s] w fun e w' => e = .returned (.tuple #[.int .u64 (ans false R).1, .bool (ans false R).2]) ∧ w' = w := by
  have hm : s.size ≤ maxLen := by unfold maxLen; omega
  have k4 : (⟨#[115, 101, 116, 40]⟩ : ByteArray).size ≤ maxLen := by unfold maxLen; decide
  have k5 : (⟨#[101, 110, 117, 109, 40]⟩ : ByteArray).size ≤ maxLen := by unfold maxLen; decide
  have k1 : (⟨#[41]⟩ : ByteArray).size ≤ maxLen := by unfold maxLen; decide
  have k1' : (⟨#[44]⟩ : ByteArray).size ≤ maxLen := by unfold maxLen; decide
  have hb : (s.extract 5 s.size).size + 0 ≤ 1048576 := by rw [size_end]; omega
  go_enter Try.func10, Try.ntmps10
  go_wp2_with fail
  refine (cut11_no _ _ _ hm k4 h4).mono ?_
  rintro e w' ⟨rfl, rfl⟩
  go_wp2_with fail
  refine (cut11_yes _ _ _ hm k5 h5).mono ?_
  rintro e w' ⟨rfl, rfl⟩
  go_wp2_with fail
  clear h4 h5 k4 k5 hm
  go_loop [4, 7] (fun r n => ∃ (q : ByteArray) (m : Nat), r = .string q ∧ n = .int .u64 m ∧ q.size + m ≤ 1048576 ∧ RunsTo q m R) (fun r _ => szOf r)
  case atStart => exact ⟨_, 0, rfl, rfl, hb, hR⟩
  case round =>
    clear hb hR
    obtain ⟨q, m, rfl, rfl, hb, hR⟩ := hrel
    go_wp2_with fail
    refine (qe12 q _ (by omega)).mono ?_
    rintro e w' ⟨⟨rfl, hqn⟩ | ⟨k, rfl, hqe⟩, rfl⟩
    · go_wp2_with fail
      go_ret2
      exact ⟨by rw [runs_none q m R hqn hR]; rfl, rfl⟩
    · have hk := hqe.1
      have hm : q.size - (k + 1) ≤ maxLen := by unfold maxLen; omega
      rw [← size_end] at hm
      have HM : Box ((q.extract (k + 1) q.size).size ≤ maxLen) := ⟨hm⟩
      clear hm
      cases c1 : hasP (q.extract (k + 1) q.size) ⟨#[41]⟩ with
      | true =>
        have HR : Box (R = some (m + 1)) := ⟨runs_close q k m R hqe hR c1⟩
        have C1 : Box (hasP (q.extract (k + 1) q.size) ⟨#[41]⟩ = true) := ⟨c1⟩
        clear hR hqe c1
        go_wp2_with fail
        refine (has13 _ _ _ HM.out k1).mono ?_
        rintro e w' ⟨rfl, rfl⟩
        rw [C1.out]
        go_wp2_with fail
        go_ret2
        exact ⟨by rw [HR.out]; rfl, rfl⟩
      | false =>
        have C1 : Box (hasP (q.extract (k + 1) q.size) ⟨#[41]⟩ = false) := ⟨c1⟩
        cases c2 : hasP (q.extract (k + 1) q.size) ⟨#[44]⟩ with
        | true =>
          have HR2 : Box (RunsTo ((q.extract (k + 1) q.size).extract 1 (q.size - (k + 1))) (m + 1) R) := ⟨runs_on' q k m R hqe hR c2⟩
          have hz : k + 2 ≤ q.size := by have := hasP_size _ _ c2; rw [size_end] at this; omega
          have C2 : Box (hasP (q.extract (k + 1) q.size) ⟨#[44]⟩ = true) := ⟨c2⟩
          clear hR hqe c2 c1
          go_wp2_with fail
          refine (has13 _ _ _ HM.out k1).mono ?_
          rintro e w' ⟨rfl, rfl⟩
          rw [C1.out]
          go_wp2_with fail
          refine (cut11_yes _ _ _ HM.out k1' C2.out).mono ?_
          rintro e w' ⟨rfl, rfl⟩
          go_wp2_with fail
          go_round
          case rel => exact ⟨_, m + 1, rfl, by go_num, by rw [size_two]; omega, HR2.out⟩
          case measure =>
            rw [szOf_string, szOf_string, size_two]; omega
        | false =>
          have HR : Box (R = none) := ⟨runs_off q k m R hqe hR c1 c2⟩
          have C2 : Box (hasP (q.extract (k + 1) q.size) ⟨#[44]⟩ = false) := ⟨c2⟩
          clear hR hqe c2 c1
          go_wp2_with fail
          refine (has13 _ _ _ HM.out k1).mono ?_
          rintro e w' ⟨rfl, rfl⟩
          rw [C1.out]
          go_wp2_with fail
          refine (cut11_no _ _ _ HM.out k1' C2.out).mono ?_
          rintro e w' ⟨rfl, rfl⟩
          go_wp2_with fail
          go_ret2
          exact ⟨by rw [HR.out]; rfl, rfl⟩

set_option maxHeartbeats 400000 in
theorem gm10_set (s : ByteArray) (w : World) (hs : s.size ≤ 1048576) (h4 : hasP s ⟨#[115, 101, 116, 40]⟩ = true) (R : Option Nat) (hR : RunsTo (s.extract 4 s.size) 0 R) :
    Calls Try.prog 10 #[.string s] w fun e w' => e = .returned (.tuple #[.int .u64 (ans true R).1, .bool (ans true R).2]) ∧ w' = w := by
  have hm : s.size ≤ maxLen := by unfold maxLen; omega
  have k4 : (⟨#[115, 101, 116, 40]⟩ : ByteArray).size ≤ maxLen := by unfold maxLen; decide
  have k5 : (⟨#[101, 110, 117, 109, 40]⟩ : ByteArray).size ≤ maxLen := by unfold maxLen; decide
  have k1 : (⟨#[41]⟩ : ByteArray).size ≤ maxLen := by unfold maxLen; decide
  have k1' : (⟨#[44]⟩ : ByteArray).size ≤ maxLen := by unfold maxLen; decide
  have hb : (s.extract 4 s.size).size + 0 ≤ 1048576 := by rw [size_end]; omega
  go_enter Try.func10, Try.ntmps10
  go_wp2_with fail
  refine (cut11_yes _ _ _ hm k4 h4).mono ?_
  rintro e w' ⟨rfl, rfl⟩
  go_wp2_with fail
  clear h4 k4 k5 hm
  go_loop [4, 7] (fun r n => ∃ (q : ByteArray) (m : Nat), r = .string q ∧ n = .int .u64 m ∧ q.size + m ≤ 1048576 ∧ RunsTo q m R) (fun r _ => szOf r)
  case atStart => exact ⟨_, 0, rfl, rfl, hb, hR⟩
  case round =>
    clear hb hR
    obtain ⟨q, m, rfl, rfl, hb, hR⟩ := hrel
    go_wp2_with fail
    refine (qe12 q _ (by omega)).mono ?_
    rintro e w' ⟨⟨rfl, hqn⟩ | ⟨k, rfl, hqe⟩, rfl⟩
    · go_wp2_with fail
      go_ret2
      exact ⟨by rw [runs_none q m R hqn hR]; rfl, rfl⟩
    · have hk := hqe.1
      have hm : q.size - (k + 1) ≤ maxLen := by unfold maxLen; omega
      rw [← size_end] at hm
      have HM : Box ((q.extract (k + 1) q.size).size ≤ maxLen) := ⟨hm⟩
      clear hm
      cases c1 : hasP (q.extract (k + 1) q.size) ⟨#[41]⟩ with
      | true =>
        have HR : Box (R = some (m + 1)) := ⟨runs_close q k m R hqe hR c1⟩
        have C1 : Box (hasP (q.extract (k + 1) q.size) ⟨#[41]⟩ = true) := ⟨c1⟩
        clear hR hqe c1
        by_cases h64 : 64 ≤ m + 1
        · go_wp2_with fail
          refine (has13 _ _ _ HM.out k1).mono ?_
          rintro e w' ⟨rfl, rfl⟩
          rw [C1.out]
          go_wp2_with fail
          go_ret2
          exact ⟨by rw [HR.out]; simp [ans, h64], rfl⟩
        · go_wp2_with fail
          refine (has13 _ _ _ HM.out k1).mono ?_
          rintro e w' ⟨rfl, rfl⟩
          rw [C1.out]
          go_wp2_with fail
          rw [ones_wrap (m + 1) (by omega)]
          go_ret2
          exact ⟨by rw [HR.out]; simp [ans, h64], rfl⟩
      | false =>
        have C1 : Box (hasP (q.extract (k + 1) q.size) ⟨#[41]⟩ = false) := ⟨c1⟩
        cases c2 : hasP (q.extract (k + 1) q.size) ⟨#[44]⟩ with
        | true =>
          have HR2 : Box (RunsTo ((q.extract (k + 1) q.size).extract 1 (q.size - (k + 1))) (m + 1) R) := ⟨runs_on' q k m R hqe hR c2⟩
          have hz : k + 2 ≤ q.size := by have := hasP_size _ _ c2; rw [size_end] at this; omega
          have C2 : Box (hasP (q.extract (k + 1) q.size) ⟨#[44]⟩ = true) := ⟨c2⟩
          clear hR hqe c2 c1
          go_wp2_with fail
          refine (has13 _ _ _ HM.out k1).mono ?_
          rintro e w' ⟨rfl, rfl⟩
          rw [C1.out]
          go_wp2_with fail
          refine (cut11_yes _ _ _ HM.out k1' C2.out).mono ?_
          rintro e w' ⟨rfl, rfl⟩
          go_wp2_with fail
          go_round
          case rel => exact ⟨_, m + 1, rfl, by go_num, by rw [size_two]; omega, HR2.out⟩
          case measure =>
            rw [szOf_string, szOf_string, size_two]; omega
        | false =>
          have HR : Box (R = none) := ⟨runs_off q k m R hqe hR c1 c2⟩
          have C2 : Box (hasP (q.extract (k + 1) q.size) ⟨#[44]⟩ = false) := ⟨c2⟩
          clear hR hqe c2 c1
          go_wp2_with fail
          refine (has13 _ _ _ HM.out k1).mono ?_
          rintro e w' ⟨rfl, rfl⟩
          rw [C1.out]
          go_wp2_with fail
          refine (cut11_no _ _ _ HM.out k1' C2.out).mono ?_
          rintro e w' ⟨rfl, rfl⟩
          go_wp2_with fail
          go_ret2
          exact ⟨by rw [HR.out]; rfl, rfl⟩

set_option maxHeartbeats 400000 in
theorem gm10_none (s : ByteArray) (w : World) (hs : s.size ≤ 1048576) (h4 : hasP s ⟨#[115, 101, 116, 40]⟩ = false) (h5 : hasP s ⟨#[101, 110, 117, 109, 40]⟩ = false) :
    Calls Try.prog 10 #[.string s] w fun e w' => e = .returned (.tuple #[.int .u64 0, .bool false]) ∧ w' = w := by
  have hm : s.size ≤ maxLen := by unfold maxLen; omega
  have k4 : (⟨#[115, 101, 116, 40]⟩ : ByteArray).size ≤ maxLen := by unfold maxLen; decide
  have k5 : (⟨#[101, 110, 117, 109, 40]⟩ : ByteArray).size ≤ maxLen := by unfold maxLen; decide
  go_enter Try.func10, Try.ntmps10
  go_wp2_with fail
  refine (cut11_no _ _ _ hm k4 h4).mono ?_
  rintro e w' ⟨rfl, rfl⟩
  go_wp2_with fail
  refine (cut11_no _ _ _ hm k5 h5).mono ?_
  rintro e w' ⟨rfl, rfl⟩
  go_wp2_with fail
  go_ret2
  exact ⟨rfl, rfl⟩
end Go.Proofs.Qxb6600799a.Gm
