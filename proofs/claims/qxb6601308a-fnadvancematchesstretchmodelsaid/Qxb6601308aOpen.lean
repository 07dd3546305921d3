/-
  THE ARGUMENTS OPENED: arrays of floats, slices of events.
-/
import Derived.Test.Qxb6601308aTop9
import Derived.OpenShut
import Derived.Deep.Slices
import Derived.Deep.Strs
import Derived.Laws.Cover2
namespace Go.Proofs.Qxb6601308a.Ad
set_option linter.unusedVariables false
open Go.ChangeShapes Go.WideShapes Go.ChangeAt Go.RowKit Rg Go.Deep

theorem Try.c22 : Try.prog.cellsOf 22 = 1 := by kernel_rfl
theorem Try.c36 : Try.prog.cellsOf 36 = 3 := by kernel_rfl
theorem Try.c37 : Try.prog.cellsOf 37 = 603 := by kernel_rfl
theorem Try.c38 : Try.prog.cellsOf 38 = 2412 := by kernel_rfl
theorem Try.c39 : Try.prog.cellsOf 39 = 200 := by kernel_rfl
theorem Try.c40 : Try.prog.cellsOf 40 = 400 := by kernel_rfl
theorem Try.c41 : Try.prog.cellsOf 41 = 4 := by kernel_rfl
theorem Try.c49 : Try.prog.cellsOf 49 = 3 := by kernel_rfl
theorem Try.c3 : Try.prog.cellsOf 3 = 1 := by kernel_rfl
theorem Try.c4 : Try.prog.cellsOf 4 = 1 := by kernel_rfl

section
variable {H : Type} {enc : TypeId × Value → H} {w : World} {base : Nat} {spare : Nat → Bool} {held : Bool}
theorem trod_float {P : Program} {t : TypeId} {k : FloatKind} {fuel : Nat} {cs : List Value} {x : DataW H × List MemPlace} (ht : P.underlying t = some (.float k)) (h : DataW.trod enc P w base spare held fuel t cs = some x) : ∃ b, cs = [.float k b] := by
  cases fuel with
  | zero => simp [DataW.trod] at h
  | succ n =>
    unfold DataW.trod at h
    rw [ht] at h
    split at h <;> simp_all
/-- every cell is a float -/
def AllFl (cs : List Value) : Prop := ∀ (i : Nat) (v : Value), cs[i]? = some v → ∃ b, v = .float .f64 b
theorem allFl_array {t e n c : Nat} {fuel : Nat} {cs : List Value} {x : DataW H × List MemPlace} (ht : Try.prog.underlying t = some (.array n e)) (hc : Try.prog.cellsOf e = c) (hc0 : 0 < c) (ht' : Try.prog.cellsOf t = n * c)
    (he : ∀ fuel cs' x', DataW.trod enc Try.prog w base spare held fuel e cs' = some x' → AllFl cs') (h : DataW.trod enc Try.prog w base spare held fuel t cs = some x) : AllFl cs := by
  obtain ⟨xs, m, _, _, hl, hx, hi⟩ := DataW.trod_array ht h
  intro i v hv
  have hil : i < n * c := by
    have := (List.getElem?_eq_some_iff.1 hv).1
    omega
  have hq : i / c < n := Nat.div_lt_of_lt_mul (by rw [Nat.mul_comm]; exact hil)
  have h1 := hi (i / c) hq
  rw [hc] at h1
  have hsome : ∃ y, xs[i / c]? = some y := ⟨xs[i / c]'(by omega), List.getElem?_eq_getElem (by omega)⟩
  obtain ⟨y, hy⟩ := hsome
  rw [hy] at h1
  have hr : i % c < c := Nat.mod_lt _ hc0
  refine he _ _ _ h1 (i % c) v ?_
  rw [List.getElem?_take_of_lt hr, List.getElem?_drop, show i / c * c + i % c = i from by rw [Nat.mul_comm]; exact Nat.div_add_mod i c]
  exact hv
theorem allFl22 : ∀ fuel cs' (x' : DataW H × List MemPlace), DataW.trod enc Try.prog w base spare held fuel 22 cs' = some x' → AllFl cs' := by
  intro fuel cs' x' h
  obtain ⟨b, rfl⟩ := trod_float Try.underlying22 h
  intro i v hv
  match i, hv with
  | 0, hv => cases hv; exact ⟨b, rfl⟩
theorem allFl36 : ∀ fuel cs' (x' : DataW H × List MemPlace), DataW.trod enc Try.prog w base spare held fuel 36 cs' = some x' → AllFl cs' := fun _ _ _ h => allFl_array Try.underlying36 Try.c22 (by omega) Try.c36 allFl22 h
theorem allFl37 : ∀ fuel cs' (x' : DataW H × List MemPlace), DataW.trod enc Try.prog w base spare held fuel 37 cs' = some x' → AllFl cs' := fun _ _ _ h => allFl_array Try.underlying37 Try.c36 (by omega) Try.c37 allFl36 h
theorem allFl38 : ∀ fuel cs' (x' : DataW H × List MemPlace), DataW.trod enc Try.prog w base spare held fuel 38 cs' = some x' → AllFl cs' := fun _ _ _ h => allFl_array Try.underlying38 Try.c37 (by omega) Try.c38 allFl37 h
theorem allFl39 : ∀ fuel cs' (x' : DataW H × List MemPlace), DataW.trod enc Try.prog w base spare held fuel 39 cs' = some x' → AllFl cs' := fun _ _ _ h => allFl_array Try.underlying39 Try.c22 (by omega) Try.c39 allFl22 h
theorem allFl40 : ∀ fuel cs' (x' : DataW H × List MemPlace), DataW.trod enc Try.prog w base spare held fuel 40 cs' = some x' → AllFl cs' := fun _ _ _ h => allFl_array Try.underlying40 Try.c39 (by omega) Try.c40 allFl39 h
theorem allFl41 : ∀ fuel cs' (x' : DataW H × List MemPlace), DataW.trod enc Try.prog w base spare held fuel 41 cs' = some x' → AllFl cs' := fun _ _ _ h => allFl_array Try.underlying41 Try.c22 (by omega) Try.c41 allFl22 h

/-- the bits, by index -/
def bitsOf (A : Array Value) (i : Nat) : Nat := match A[i]? with
  | some (.float _ b) => b
  | _ => 0
theorem bitsOf_get {A : Array Value} {n : Nat} (hn : A.size = n) (h : AllFl A.toList) : ∀ i, i < n → A[i]? = some (.float .f64 (bitsOf A i)) := by
  intro i hi
  have e : A[i]? = some A[i] := Array.getElem?_eq_getElem (by omega)
  obtain ⟨b, hb⟩ := h i A[i] (by simp [hn, hi])
  unfold bitsOf
  rw [e, hb]
theorem open_arr {t n e : Nat} {r : Reach} {b0 c : Nat} {v : Value} {d : DataW H} {ps : List MemPlace} (ht : Try.prog.underlying t = some (.array n e)) (hc : Try.prog.cellsOf t = c) (hval : Value.okWide Try.prog w r b0 t v) (hd : DataW.Trod enc Try.prog w base spare held t v d ps)
    (he : ∀ fuel cs' (x' : DataW H × List MemPlace), DataW.trod enc Try.prog w base spare held fuel t cs' = some x' → AllFl cs') : ∃ A : Array Value, v = .agg A ∧ A.size = c ∧ ∀ i, i < c → A[i]? = some (.float .f64 (bitsOf A i)) := by
  unfold Value.okWide at hval
  rw [ht] at hval
  obtain ⟨cs, rfl, hs, _⟩ := hval
  rw [hc] at hs
  obtain ⟨fuel, hf⟩ := hd
  exact ⟨cs, rfl, hs, bitsOf_get hs (he _ _ _ hf)⟩

theorem open_evs {v : Value} {r : Reach} {b0 : Nat} {d : DataW H} {ps : List MemPlace} (hval : Value.okWide Try.prog w r b0 42 v) (hd : DataW.Trod enc Try.prog w base (fun _ => true) held 42 v d ps) :
    ∃ a n c l, v = .slice a n c ∧ IsEvs w (.slice a n c) n l := by
  obtain ⟨a0, len, cap, rfl⟩ := okWide_slice Try.underlying42 hval
  obtain ⟨fuel, hf⟩ := hd
  rcases open_slice Try.underlying42 hf with ⟨hcs, _⟩ | ⟨a, len', cap', m, n, D, Pl, hcs, _, hl, hm, hmm, _, hel⟩
  · simp [Value.cells] at hcs
    obtain ⟨rfl, rfl, rfl⟩ := hcs
    exact ⟨none, 0, 0, [], rfl, rfl, none, 0, rfl, fun h => by omega⟩
  · simp [Value.cells] at hcs
    obtain ⟨rfl, rfl, rfl⟩ := hcs
    simp at hmm
    subst hmm
    rw [Try.c49] at hel
    have key : ∀ i, i < len → ∃ e : E0, w.cell? (a.add (i * 3)) = some (.int .i64 e.cyc) ∧ w.cell? ((a.add (i * 3)).add 1) = some (.float .f64 e.ca) ∧ w.cell? ((a.add (i * 3)).add 2) = some (.bool e.act) := by
      intro i hi
      obtain ⟨cs', h1, h2⟩ := hel i (by omega)
      obtain ⟨_, hlen, hcell⟩ := World.cells?_some h1
      obtain ⟨y0, y1, y2, k, _, _, g0, g1, g2⟩ := trod_struct3 Try.underlying49 h2
      match cs', hlen with
      | [x0, x1, x2], _ =>
        simp only [Try.c3, Try.c22, Try.c4] at g0 g1 g2
        obtain ⟨z, ez, _⟩ := DataW.trod_int Try.underlying3 g0
        obtain ⟨f, ef⟩ := trod_float Try.underlying22 g1
        obtain ⟨bb, eb, _⟩ := DataW.trod_bool Try.underlying4 g2
        simp at ez ef eb
        subst ez ef eb
        refine ⟨⟨z, f, bb⟩, ?_, ?_, ?_⟩
        · have := hcell 0 (by omega)
          simpa [Addr.add] using this
        · exact hcell 1 (by omega)
        · exact hcell 2 (by omega)
    by_cases h0 : 1 ≤ len
    · obtain ⟨b, off, spot⟩ := a
      have hspot : spot = none := by
        obtain ⟨e, h1, _⟩ := key 0 (by omega)
        simpa [Addr.add] using World.cell?_spot h1
      subst hspot
      have : Inhabited E0 := ⟨⟨0, 0, false⟩⟩
      obtain ⟨f, hf'⟩ := choose_lt (α := E0) key
      refine ⟨some ⟨b, off, none⟩, len, m, (List.range len).map f, rfl, by simp, some ⟨b, off, none⟩, m, rfl, fun _ => ⟨hl, b, off, rfl, ?_⟩⟩
      intro i e he
      have hi : i < len := by
        have := (List.getElem?_eq_some_iff.1 he).1
        simpa using this
      simp [hi] at he
      subst he
      have := hf' i hi
      rw [add_plain, add_plain, add_plain] at this
      exact this
    · obtain rfl : len = 0 := by omega
      exact ⟨some a, 0, m, [], rfl, rfl, some a, m, rfl, fun h => by omega⟩
end
end Go.Proofs.Qxb6601308a.Ad
