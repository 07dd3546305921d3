/-
  latestAt and nextStart of the model, walked.
-/
import Derived.Test.Qxb6601308aRun
namespace Go.Proofs.Qxb6601308a.Ad
set_option linter.unusedVariables false
open Go.ChangeShapes Go.WideShapes Go.ChangeAt Go.RowKit Rg
open Qxb6601308a.Fl (cl fmul fadd Box)
/-- the cycle of the event behind the i-th, or 200 -/
def nx (l : List E0) (i : Nat) : Int := if i + 1 < l.length then cycAt l (i + 1) else 200
/-- the i-th is the latest event at or before t -/
structure Sp (l : List E0) (i t : Nat) : Prop where
  lt : i < l.length
  le : ∀ k, k ≤ i → cycAt l k ≤ t
  gt : ∀ k, i < k → k < l.length → (t : Int) < cycAt l k ∧ nx l i ≤ cycAt l k ∧ cycAt l k < 200

set_option maxHeartbeats 400000 in
theorem lat33 (b o c i t : Nat) (l : List E0) (w : World) (h : RawAt w b o l) (hl : l.length ≤ 16384) (hc : l.length ≤ c) (hs : Sp l i t) (ht : t < 200) :
    Calls Try.prog 33 #[.slice (some ⟨b, o, none⟩) l.length c, .int .i64 (t : Nat)] w fun e w' => e = .returned (.int .i64 (i : Nat)) ∧ w' = w := by
  have hi := hs.lt
  have HS := Box.mk hs
  have HH := Box.mk h
  clear hs h
  go_enter Try.func33, Try.ntmps33
  go_wp2
  go_loopg [5, 6] l.length (fun gk v5 v6 wr => ∃ k a : Nat, v6 = .int .i64 k ∧ v5 = .int .i64 a ∧ k ≤ l.length ∧ gk + k = l.length ∧ w = wr ∧ (k ≤ i + 1 → a = k - 1) ∧ (i < k → a = i))
  case atStart => exact ⟨0, 0, rfl, rfl, Nat.zero_le _, rfl, rfl, fun _ => rfl, fun h => by omega⟩
  case round =>
    obtain ⟨k, a, rfl, rfl, hk, hgk, rfl, ha, hb⟩ := hrel
    by_cases hlt : k < l.length
    · obtain ⟨r1, _, _⟩ := raw_at HH.out hlt
      by_cases g : k ≤ i
      · have gd : decide (cycAt l k ≤ (t : Int)) = true := decide_eq_true (HS.out.le k g)
        go_wp2
        go_roundg (l.length - (k + 1))
        case measure => omega
        case rel => exact ⟨k + 1, k, by go_num, rfl, by omega, by omega, rfl, fun _ => by omega, fun _ => by omega⟩
      · have gd : decide (cycAt l k ≤ (t : Int)) = false := decide_eq_false (by have := (HS.out.gt k (by omega) hlt).1; omega)
        go_wp2
        go_roundg (l.length - (k + 1))
        case measure => omega
        case rel => exact ⟨k + 1, a, by go_num, rfl, by omega, by omega, rfl, fun _ => by omega, fun _ => hb (by omega)⟩
    · obtain rfl : a = i := hb (by omega)
      clear ha hb
      go_wp2
      go_ret
      exact ⟨rfl, rfl⟩

set_option maxHeartbeats 400000 in
theorem next32 (b o c i b' o' c' j t : Nat) (l l' : List E0) (w : World) (h : RawAt w b o l) (hl : l.length ≤ 16384) (hc : l.length ≤ c) (hs : Sp l i t) (h' : RawAt w b' o' l') (hl' : l'.length ≤ 16384) (hc' : l'.length ≤ c') (hs' : Sp l' j t) (ht : t < 200) :
    Calls Try.prog 32 #[.slice (some ⟨b, o, none⟩) l.length c, .slice (some ⟨b', o', none⟩) l'.length c', .int .i64 (t : Nat)] w fun e w' => e = .returned (.int .i64 (min (nx l i) (nx l' j))) ∧ w' = w := by
  have hi := hs.lt
  have hj := hs'.lt
  have HS := Box.mk hs
  have HH := Box.mk h
  have HS' := Box.mk hs'
  have HH' := Box.mk h'
  clear hs h hs' h'
  go_enter Try.func32, Try.ntmps32
  go_wp2
  go_loopg [7, 8] l.length (fun gk v7 v8 wr => ∃ (k : Nat) (N : Int), v8 = .int .i64 k ∧ v7 = .int .i64 N ∧ k ≤ l.length ∧ gk + k = l.length ∧ w = wr ∧ (k ≤ i + 1 → N = 200) ∧ (i + 1 < k → N = nx l i))
  case atStart => exact ⟨0, 200, rfl, rfl, Nat.zero_le _, rfl, rfl, fun _ => rfl, fun h => by omega⟩
  case round =>
    obtain ⟨k, N, rfl, rfl, hk, hgk, rfl, ha, hb⟩ := hrel
    by_cases hlt : k < l.length
    · obtain ⟨r1, _, _⟩ := raw_at HH.out hlt
      by_cases g : k ≤ i
      · have gd : decide ((t : Int) < cycAt l k) = false := decide_eq_false (by have := HS.out.le k g; omega)
        go_wp2
        go_roundg (l.length - (k + 1))
        case measure => omega
        case rel => exact ⟨k + 1, N, by go_num, rfl, by omega, by omega, rfl, fun _ => ha (by omega), fun _ => by omega⟩
      · obtain ⟨g1, g2, g3⟩ := HS.out.gt k (by omega) hlt
        have gd : decide ((t : Int) < cycAt l k) = true := decide_eq_true g1
        by_cases e : k = i + 1
        · have hN := ha (by omega)
          have HX : Box (cycAt l k = nx l i) := ⟨by unfold nx; rw [if_pos (by omega), e]⟩
          have gn : decide (cycAt l k < N) = true := decide_eq_true (by omega)
          have E := Box.mk e
          clear ha hb hN g1 g2 g3 e
          go_wp2
          go_roundg (l.length - (k + 1))
          case measure => omega
          case rel => exact ⟨k + 1, cycAt l k, by go_num, rfl, by omega, by omega, rfl, fun _ => by have := E.out; omega, fun _ => HX.out⟩
        · have hN := hb (by omega)
          have gn : decide (cycAt l k < N) = false := decide_eq_false (by omega)
          have HX : Box (N = nx l i) := ⟨hN⟩
          clear ha hb hN g1 g2 g3
          go_wp2
          go_roundg (l.length - (k + 1))
          case measure => omega
          case rel => exact ⟨k + 1, N, by go_num, rfl, by omega, by omega, rfl, fun _ => by omega, fun _ => HX.out⟩
    · have hN : N = nx l i := by
        by_cases e : i + 1 < k
        · exact hb e
        · rw [ha (by omega)]; unfold nx; rw [if_neg (by omega)]
      have hN2 : N ≤ 200 := by
        rw [hN]; unfold nx
        by_cases e : i + 1 < l.length
        · rw [if_pos e]; have := (HS.out.gt (i + 1) (by omega) e).2.2; omega
        · rw [if_neg e]; omega
      have HN := Box.mk hN
      clear ha hb hN
      go_wp2
      go_loopg [7, 9] l'.length (fun gk v7 v9 wr => ∃ (k : Nat) (M : Int), v9 = .int .i64 k ∧ v7 = .int .i64 M ∧ k ≤ l'.length ∧ gk + k = l'.length ∧ w = wr ∧ (k ≤ j + 1 → M = N) ∧ (j + 1 < k → M = min N (nx l' j)))
      case atStart => exact ⟨0, N, rfl, rfl, Nat.zero_le _, rfl, rfl, fun _ => rfl, fun h => by omega⟩
      case round =>
        obtain ⟨k, M, rfl, rfl, hk, hgk, rfl, ha, hb⟩ := hrel
        by_cases hlt : k < l'.length
        · obtain ⟨r1, _, _⟩ := raw_at HH'.out hlt
          by_cases g : k ≤ j
          · have gd : decide ((t : Int) < cycAt l' k) = false := decide_eq_false (by have := HS'.out.le k g; omega)
            go_wp2
            go_roundg (l'.length - (k + 1))
            case measure => omega
            case rel => exact ⟨k + 1, M, by go_num, rfl, by omega, by omega, rfl, fun _ => ha (by omega), fun _ => by omega⟩
          · obtain ⟨g1, g2, g3⟩ := HS'.out.gt k (by omega) hlt
            have gd : decide ((t : Int) < cycAt l' k) = true := decide_eq_true g1
            by_cases e : k = j + 1
            · have hM := ha (by omega)
              have hX : cycAt l' k = nx l' j := by unfold nx; rw [if_pos (by omega), e]
              by_cases q : cycAt l' k < M
              · have gn : decide (cycAt l' k < M) = true := decide_eq_true q
                have HX : Box (cycAt l' k = min N (nx l' j)) := ⟨by omega⟩
                have E := Box.mk e
                clear ha hb hM g1 g2 g3 q hX e
                go_wp2
                go_roundg (l'.length - (k + 1))
                case measure => omega
                case rel => exact ⟨k + 1, cycAt l' k, by go_num, rfl, by omega, by omega, rfl, fun _ => by have := E.out; omega, fun _ => HX.out⟩
              · have gn : decide (cycAt l' k < M) = false := decide_eq_false q
                have HX : Box (M = min N (nx l' j)) := ⟨by omega⟩
                have E := Box.mk e
                clear ha hb hM g1 g2 g3 q hX e
                go_wp2
                go_roundg (l'.length - (k + 1))
                case measure => omega
                case rel => exact ⟨k + 1, M, by go_num, rfl, by omega, by omega, rfl, fun _ => by have := E.out; omega, fun _ => HX.out⟩
            · have hM := hb (by omega)
              have gn : decide (cycAt l' k < M) = false := decide_eq_false (by omega)
              have HX : Box (M = min N (nx l' j)) := ⟨hM⟩
              clear ha hb hM g1 g2 g3
              go_wp2
              go_roundg (l'.length - (k + 1))
              case measure => omega
              case rel => exact ⟨k + 1, M, by go_num, rfl, by omega, by omega, rfl, fun _ => by omega, fun _ => HX.out⟩
        · have HM : Box (M = min (nx l i) (nx l' j)) := ⟨by
            rw [← HN.out]
            by_cases e : j + 1 < k
            · exact hb e
            · rw [ha (by omega)]
              have : nx l' j = 200 := by unfold nx; rw [if_neg (by omega)]
              omega⟩
          clear ha hb
          go_wp2
          go_ret
          exact ⟨by rw [← HM.out]; rfl, rfl⟩
end Go.Proofs.Qxb6601308a.Ad
