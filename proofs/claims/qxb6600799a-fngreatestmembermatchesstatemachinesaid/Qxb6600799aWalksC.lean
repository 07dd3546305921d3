import Derived.Test.Qxb6600799aWalksB
namespace Go.Proofs.Qxb6600799a.Gm
open Go.ChangeShapes Go.WideShapes Go.ChangeAt Go.RowKit
set_option linter.unusedVariables false
theorem ones_step (j : Nat) (h : j < 63) : bits BinOp.or IntKind.u64 (IntKind.u64.wrap (((2 : Int) ^ j - 1) * 2)) 1 = (2 : Int) ^ (j + 1) - 1 := by
  have H : ∀ i : Fin 63, bits BinOp.or IntKind.u64 (IntKind.u64.wrap (((2 : Int) ^ i.val - 1) * 2)) 1 = (2 : Int) ^ (i.val + 1) - 1 := by decide +kernel
  exact H ⟨j, h⟩
set_option maxHeartbeats 400000 in
theorem ones9 (n : Nat) (w : World) (hn : n < 64) :
    Calls Try.prog 9 #[.int .u64 n] w fun e w' => e = .returned (.int .u64 (2 ^ n - 1)) ∧ w' = w := by
  go_enter Try.func9, Try.ntmps9
  go_wp2
  go_loop [3, 4] (fun v k => ∃ j : Nat, j ≤ n ∧ k = .int .u64 j ∧ v = .int .u64 (2 ^ j - 1)) (fun _ k => n - (intOf k).toNat)
  case atStart => exact ⟨0, Nat.zero_le _, rfl, rfl⟩
  case round =>
    obtain ⟨j, hj, rfl, rfl⟩ := hrel
    by_cases hlt : j < n
    · go_wp2
      go_round
      case rel => exact ⟨j + 1, by omega, by go_num, by rw [ones_step j (by omega)]⟩
      case measure => simp [intOf]; omega
    · go_wp2
      go_ret
      exact ⟨by rw [show n = j from by omega]; rfl, rfl⟩

set_option maxHeartbeats 400000 in
theorem model7_set (s : ByteArray) (w : World) (hs : s.size ≤ 1048576) (h4 : hasP s ⟨#[115, 101, 116, 40]⟩ = true) (R : Option Nat) (hR : RunsTo (s.extract 4 s.size) 0 R) :
    Calls Try.prog 7 #[.string s] w fun e w' => e = .returned (.tuple #[.int .u64 (ans true R).1, .bool (ans true R).2]) ∧ w' = w := by
  obtain ⟨z4, e4⟩ := set_yes s h4
  have hM := mat_start s 4 R hR
  clear h4 hR
  go_enter Try.func7, Try.ntmps7
  go_wp2_with fail
  clear e4
  go_loop [5, 6, 7, 8] (fun i sv nv cv => ∃ (k st n : Nat) (cl : Bool), k ≤ s.size ∧ st ≤ 2 ∧ n ≤ k ∧ i = .int .i64 k ∧ sv = .int .i64 st ∧ nv = .int .u64 n ∧ cv = .bool cl ∧ MAt s R k st n cl) (fun i _ _ _ => s.size - (intOf i).toNat)
  case atStart => exact ⟨4, 0, 0, false, z4, by omega, by omega, rfl, rfl, rfl, rfl, hM⟩
  case round =>
    clear hM z4
    obtain ⟨k, st, n, cl, hk, hst, hn, rfl, rfl, rfl, rfl, hM⟩ := hrel
    cases cl with
    | true =>
      have HR : Box (R = some n) := ⟨mat_closed s R k st n hM⟩
      clear hM
      by_cases hlt : k < s.size
      · by_cases h64 : 64 ≤ n
        · go_wp2
          go_ret2
          exact ⟨by rw [HR.out]; simp [ans, h64], rfl⟩
        · go_wp2_with (go_at_call 9; refine (ones9 n _ (by omega)).mono ?_; rintro e w' ⟨rfl, rfl⟩)
          go_ret2
          exact ⟨by rw [HR.out]; simp [ans, h64], rfl⟩
      · by_cases h64 : 64 ≤ n
        · go_wp2
          go_ret2
          exact ⟨by rw [HR.out]; simp [ans, h64], rfl⟩
        · go_wp2_with (go_at_call 9; refine (ones9 n _ (by omega)).mono ?_; rintro e w' ⟨rfl, rfl⟩)
          go_ret2
          exact ⟨by rw [HR.out]; simp [ans, h64], rfl⟩
    | false =>
      by_cases hlt : k < s.size
      · obtain rfl | rfl | rfl : st = 0 ∨ st = 1 ∨ st = 2 := by omega
        · go_wp2
          · go_ret2
            exact ⟨by rw [m0_other s R k n hlt hM (ne39 _ ‹_›)]; rfl, rfl⟩
          · go_round
            case rel => exact ⟨k + 1, 1, n, false, by omega, by omega, by omega, by go_num, rfl, rfl, rfl, m0_quote s R k n hlt hM (eq39 _ ‹_›)⟩
            case measure => simp [intOf]; omega
        · go_wp2
          · go_round
            case rel => exact ⟨k + 1, 2, n, false, by omega, by omega, by omega, by go_num, rfl, rfl, rfl, m1_quote s R k n hlt hM (yes39 _ ‹_›)⟩
            case measure => simp [intOf]; omega
          · go_round
            case rel => exact ⟨k + 1, 1, n, false, by omega, by omega, by omega, by go_num, rfl, rfl, rfl, m1_other s R k n hlt hM (no39 _ ‹_›)⟩
            case measure => simp [intOf]; omega
        · go_wp2
          · go_round
            case rel => exact ⟨k + 1, 1, n, false, by omega, by omega, by omega, by go_num, rfl, rfl, rfl, m2_quote s R k n hlt hM (yes39 _ ‹_›)⟩
            case measure => simp [intOf]; omega
          · go_round
            case rel => exact ⟨k + 1, 0, n + 1, false, by omega, by omega, by omega, by go_num, rfl, by go_num, rfl, m2_comma s R k n hlt hM (yes44 _ ‹_›)⟩
            case measure => simp [intOf]; omega
          · go_round
            case rel => exact ⟨k + 1, 2, n + 1, true, by omega, by omega, by omega, by go_num, rfl, by go_num, rfl, m2_close s R k n 2 hlt hM (yes41 _ ‹_›)⟩
            case measure => simp [intOf]; omega
          · go_ret2
            exact ⟨by rw [m2_other s R k n hlt hM (no39 _ ‹_›) (no44 _ ‹_›) (no41 _ ‹_›)]; rfl, rfl⟩
      · have HR : Box (R = none) := ⟨mat_end s R k st n hlt hM⟩
        clear hM
        go_wp2
        go_ret2
        exact ⟨by rw [HR.out]; rfl, rfl⟩

set_option maxHeartbeats 400000 in
theorem model7_enum (s : ByteArray) (w : World) (hs : s.size ≤ 1048576) (e4 : ((s.extract 0 4).toList == [115, 101, 116, 40]) = false) (h5 : hasP s ⟨#[101, 110, 117, 109, 40]⟩ = true) (R : Option Nat) (hR : RunsTo (s.extract 5 s.size) 0 R) :
    Calls Try.prog 7 #[.string s] w fun e w' => e = .returned (.tuple #[.int .u64 (ans false R).1, .bool (ans false R).2]) ∧ w' = w := by
  obtain ⟨z4, e5⟩ := enum_yes s h5
  have hM := mat_start s 5 R hR
  have y4 : 4 ≤ s.size := by omega
  clear h5 hR
  go_enter Try.func7, Try.ntmps7
  go_wp2_with fail
  clear e5 e4 y4
  go_loop [5, 6, 7, 8] (fun i sv nv cv => ∃ (k st n : Nat) (cl : Bool), k ≤ s.size ∧ st ≤ 2 ∧ n ≤ k ∧ i = .int .i64 k ∧ sv = .int .i64 st ∧ nv = .int .u64 n ∧ cv = .bool cl ∧ MAt s R k st n cl) (fun i _ _ _ => s.size - (intOf i).toNat)
  case atStart => exact ⟨5, 0, 0, false, z4, by omega, by omega, rfl, rfl, rfl, rfl, hM⟩
  case round =>
    clear hM z4
    obtain ⟨k, st, n, cl, hk, hst, hn, rfl, rfl, rfl, rfl, hM⟩ := hrel
    cases cl with
    | true =>
      have HR : Box (R = some n) := ⟨mat_closed s R k st n hM⟩
      clear hM
      by_cases hlt : k < s.size
      · go_wp2
        go_ret2
        exact ⟨by rw [HR.out]; simp [ans], rfl⟩
      · go_wp2
        go_ret2
        exact ⟨by rw [HR.out]; simp [ans], rfl⟩
    | false =>
      by_cases hlt : k < s.size
      · obtain rfl | rfl | rfl : st = 0 ∨ st = 1 ∨ st = 2 := by omega
        · go_wp2
          · go_ret2
            exact ⟨by rw [m0_other s R k n hlt hM (ne39 _ ‹_›)]; rfl, rfl⟩
          · go_round
            case rel => exact ⟨k + 1, 1, n, false, by omega, by omega, by omega, by go_num, rfl, rfl, rfl, m0_quote s R k n hlt hM (eq39 _ ‹_›)⟩
            case measure => simp [intOf]; omega
        · go_wp2
          · go_round
            case rel => exact ⟨k + 1, 2, n, false, by omega, by omega, by omega, by go_num, rfl, rfl, rfl, m1_quote s R k n hlt hM (yes39 _ ‹_›)⟩
            case measure => simp [intOf]; omega
          · go_round
            case rel => exact ⟨k + 1, 1, n, false, by omega, by omega, by omega, by go_num, rfl, rfl, rfl, m1_other s R k n hlt hM (no39 _ ‹_›)⟩
            case measure => simp [intOf]; omega
        · go_wp2
          · go_round
            case rel => exact ⟨k + 1, 1, n, false, by omega, by omega, by omega, by go_num, rfl, rfl, rfl, m2_quote s R k n hlt hM (yes39 _ ‹_›)⟩
            case measure => simp [intOf]; omega
          · go_round
            case rel => exact ⟨k + 1, 0, n + 1, false, by omega, by omega, by omega, by go_num, rfl, by go_num, rfl, m2_comma s R k n hlt hM (yes44 _ ‹_›)⟩
            case measure => simp [intOf]; omega
          · go_round
            case rel => exact ⟨k + 1, 2, n + 1, true, by omega, by omega, by omega, by go_num, rfl, by go_num, rfl, m2_close s R k n 2 hlt hM (yes41 _ ‹_›)⟩
            case measure => simp [intOf]; omega
          · go_ret2
            exact ⟨by rw [m2_other s R k n hlt hM (no39 _ ‹_›) (no44 _ ‹_›) (no41 _ ‹_›)]; rfl, rfl⟩
      · have HR : Box (R = none) := ⟨mat_end s R k st n hlt hM⟩
        clear hM
        go_wp2
        go_ret2
        exact ⟨by rw [HR.out]; rfl, rfl⟩

set_option maxHeartbeats 400000 in
theorem model7_none (s : ByteArray) (w : World) (hs : s.size ≤ 1048576) (h4 : hasP s ⟨#[115, 101, 116, 40]⟩ = false) (h5 : hasP s ⟨#[101, 110, 117, 109, 40]⟩ = false) :
    Calls Try.prog 7 #[.string s] w fun e w' => e = .returned (.tuple #[.int .u64 0, .bool false]) ∧ w' = w := by
  rcases set_no s h4 with z4 | ⟨z4, e4⟩
  · have z5 : ¬ 5 ≤ s.size := by omega
    clear h4 h5
    go_enter Try.func7, Try.ntmps7
    go_wp2
    go_ret2
    exact ⟨rfl, rfl⟩
  · rcases enum_no s h5 with z5 | ⟨z5, e5⟩
    · clear h4 h5
      go_enter Try.func7, Try.ntmps7
      go_wp2
      go_ret2
      exact ⟨rfl, rfl⟩
    · clear h4 h5
      go_enter Try.func7, Try.ntmps7
      go_wp2
      go_ret2
      exact ⟨rfl, rfl⟩
end Go.Proofs.Qxb6600799a.Gm
