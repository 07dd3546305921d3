import Derived.Test.Qxb6601308aAfter
import Derived.Deep.LoopGhost
import Derived.Deep.DeepCutAuto

namespace Go.Proofs.Qxb6601308a.Ad
set_option linter.unusedVariables false
open Go.ChangeShapes Go.WideShapes Go.ChangeAt Go.RowKit Rg
open Qxb6601308a.Fl (cl fmul fadd Box)
/-- an event as it comes in: the cycle is whatever int -/
structure E0 where
  cyc : Int
  ca : Nat
  act : Bool
def RawAt (w : World) (b o : Nat) (l : List E0) : Prop := ∀ (i : Nat) (e : E0), l[i]? = some e →
  w.cell? ⟨b, o + i * 3, none⟩ = some (.int .i64 e.cyc) ∧ w.cell? ⟨b, o + i * 3 + 1, none⟩ = some (.float .f64 e.ca) ∧ w.cell? ⟨b, o + i * 3 + 2, none⟩ = some (.bool e.act)
def cycAt (l : List E0) (i : Nat) : Int := (l.getD i ⟨0, 0, false⟩).cyc
def caAt (l : List E0) (i : Nat) : Nat := (l.getD i ⟨0, 0, false⟩).ca
def actAt (l : List E0) (i : Nat) : Bool := (l.getD i ⟨0, 0, false⟩).act
theorem raw_at {w : World} {b o : Nat} {l : List E0} (h : RawAt w b o l) {i : Nat} (hi : i < l.length) :
    w.cell? ⟨b, o + i * 3, none⟩ = some (.int .i64 (cycAt l i)) ∧ w.cell? ⟨b, o + i * 3 + 1, none⟩ = some (.float .f64 (caAt l i)) ∧ w.cell? ⟨b, o + i * 3 + 2, none⟩ = some (.bool (actAt l i)) := by
  have e : l[i]? = some (l.getD i ⟨0, 0, false⟩) := by simp [List.getElem?_eq_getElem hi]
  exact h i _ e
/-- well formed so far: the cycles up to k grow, from the second on below 200 -/
def WfTo (l : List E0) (k : Nat) : Prop := 1 ≤ l.length ∧ cycAt l 0 = 0 ∧ ∀ i, 1 ≤ i → i < k → cycAt l (i - 1) < cycAt l i ∧ cycAt l i < 200

set_option maxHeartbeats 400000 in
theorem wf21 (b o c : Nat) (l : List E0) (w : World) (h : RawAt w b o l) (hl : l.length ≤ 16384) (hc : l.length ≤ c) :
    Calls Try.prog 21 #[.slice (some ⟨b, o, none⟩) l.length c] w fun e w' => ∃ n, w' = w.drewN n ∧ (e = .returned (.bool false) ∨ e = .returned (.bool true) ∧ WfTo l l.length) := by
  by_cases h0 : 1 ≤ l.length
  · obtain ⟨r0, _, _⟩ := raw_at h h0
    have hz : ((l.length : Int) == 0) = false := by rw [beq_eq_false_iff_ne]; omega
    simp only [Nat.zero_mul, Nat.add_zero] at r0
    by_cases hc0 : cycAt l 0 = 0
    · have hn : ((cycAt l 0 : Int) != 0) = false := by simp [hc0]
      have HC : Box (cycAt l 0 = 0) := ⟨hc0⟩
      clear hc0
      go_enter Try.func21, Try.ntmps21
      go_wp2
      clear hn hz r0
      go_loopg [3] l.length (fun gk v3 wr => ∃ (k nd : Nat), v3 = .int .i64 k ∧ 1 ≤ k ∧ k ≤ l.length ∧ wr = w.drewN nd ∧ gk + k = l.length + 1 ∧ WfTo l k)
      case atStart => exact ⟨1, 0, rfl, Nat.le_refl _, h0, rfl, by omega, h0, HC.out, fun i h1 h2 => by omega⟩
      case round =>
        obtain ⟨k, nd, rfl, hk1, hk, rfl, hgk, hwf⟩ := hrel
        by_cases hlt : k < l.length
        · obtain ⟨r1, _, _⟩ := raw_at h hlt
          obtain ⟨r2, _, _⟩ := raw_at h (show k - 1 < l.length by omega)
          have ke : ((k : Int) - 1).toNat = k - 1 := by omega
          have kb : (0 : Int) ≤ (k : Int) - 1 := by omega
          by_cases g : cycAt l k ≤ cycAt l (k - 1)
          · have gd : decide (cycAt l k ≤ cycAt l (k - 1)) = true := by simpa using g
            go_wp2
            go_quiet (fail)
            go_wp2
            go_ret
            exact ⟨nd + nq, World.drewN_drewN .., .inl rfl⟩
          · have gd : decide (cycAt l k ≤ cycAt l (k - 1)) = false := by simpa using g
            by_cases g2 : 200 ≤ cycAt l k
            · have gd2 : decide (200 ≤ cycAt l k) = true := by simpa using g2
              go_wp2
              go_quiet (fail)
              go_wp2
              go_ret
              exact ⟨nd + nq, World.drewN_drewN .., .inl rfl⟩
            · have gd2 : decide (200 ≤ cycAt l k) = false := by simpa using g2
              have HW : Box (WfTo l (k + 1)) := ⟨hwf.1, hwf.2.1, fun i h1 h2 => by
                by_cases e : i = k
                · subst e; exact ⟨by omega, by omega⟩
                · exact hwf.2.2 i h1 (by omega)⟩
              go_wp2
              go_quiet (fail)
              go_wp2
              go_roundg (l.length - k)
              case measure => omega
              case rel => exact ⟨k + 1, _, by go_num, by omega, by omega, rfl, by omega, HW.out⟩
        · have e : k = l.length := by omega
          have HW : Box (WfTo l l.length) := ⟨by rw [← e]; exact hwf⟩
          clear hwf e
          go_wp2
          go_ret
          exact ⟨nd, rfl, .inr ⟨rfl, HW.out⟩⟩
    · have hn : ((cycAt l 0 : Int) != 0) = true := by simpa using hc0
      clear hc0
      go_enter Try.func21, Try.ntmps21
      go_wp2
      go_ret
      exact ⟨0, rfl, .inl rfl⟩
  · have hz : ((l.length : Int) == 0) = true := by rw [beq_iff_eq]; omega
    go_enter Try.func21, Try.ntmps21
    go_wp2
    go_ret
    exact ⟨0, rfl, .inl rfl⟩
end Go.Proofs.Qxb6601308a.Ad
