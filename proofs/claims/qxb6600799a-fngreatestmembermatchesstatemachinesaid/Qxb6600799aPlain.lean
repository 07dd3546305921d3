/-
  THE PLAIN LAW OF 'FnGreatestMemberMatchesStateMachine': no Go in sight.
-/
import Derived.Laws.Strings
import Derived.Laws.Strings2
namespace Go.Proofs.Qxb6600799a.Gm
/-- A fact shut away: no tactic looks behind it. -/
structure Box (p : Prop) : Prop where
  out : p

/-- THE AUTOMATON over what is left of the text: 'none': refused; 'some n': closed, n members. -/
def mrun : List UInt8 → Nat → Nat → Option Nat
  | [], _, _ => none
  | c :: l, st, n =>
    if st = 0 then (if c = 39 then mrun l 1 n else none)
    else if st = 1 then (if c = 39 then mrun l 2 n else mrun l 1 n)
    else if c = 39 then mrun l 1 n
    else if c = 44 then mrun l 0 (n + 1)
    else if c = 41 then some (n + 1)
    else none

theorem mrun_nil (st n : Nat) : mrun [] st n = none := rfl
theorem mrun_zero_quote (c : UInt8) (l : List UInt8) (n : Nat) (h : c = 39) : mrun (c :: l) 0 n = mrun l 1 n := by simp [mrun, h]
theorem mrun_zero_other (c : UInt8) (l : List UInt8) (n : Nat) (h : c ≠ 39) : mrun (c :: l) 0 n = none := by simp [mrun, h]
theorem mrun_one_quote (c : UInt8) (l : List UInt8) (n : Nat) (h : c = 39) : mrun (c :: l) 1 n = mrun l 2 n := by simp [mrun, h]
theorem mrun_one_other (c : UInt8) (l : List UInt8) (n : Nat) (h : c ≠ 39) : mrun (c :: l) 1 n = mrun l 1 n := by simp [mrun, h]
theorem mrun_two_quote (c : UInt8) (l : List UInt8) (n : Nat) (h : c = 39) : mrun (c :: l) 2 n = mrun l 1 n := by simp [mrun, h]
theorem mrun_two_comma (c : UInt8) (l : List UInt8) (n : Nat) (h : c = 44) : mrun (c :: l) 2 n = mrun l 0 (n + 1) := by simp [mrun, h]
theorem mrun_two_close (c : UInt8) (l : List UInt8) (n : Nat) (h : c = 41) : mrun (c :: l) 2 n = some (n + 1) := by simp [mrun, h]
theorem mrun_two_other (c : UInt8) (l : List UInt8) (n : Nat) (h : c ≠ 39) (h1 : c ≠ 44) (h2 : c ≠ 41) : mrun (c :: l) 2 n = none := by simp [mrun, h, h1, h2]

/-- 'the byte, as the walk spells its test' -/
theorem byte_eq (c : UInt8) (k : Nat) (hk : k < 256) : ((c.toNat : Int) == (k : Int)) = decide (c = UInt8.ofNat k) := by
  rw [Bool.eq_iff_iff]
  simp only [beq_iff_eq, decide_eq_true_eq]
  constructor
  · intro h
    have h' : c.toNat = k := by omega
    rw [← h']; simp
  · intro h
    rw [h]
    have : (UInt8.ofNat k).toNat = k := by simp [Nat.mod_eq_of_lt hk]
    rw [this]

theorem drop_cons (s : ByteArray) (k : Nat) (h : k < s.size) : s.data.toList.drop k = s[k] :: s.data.toList.drop (k + 1) := by
  rw [List.drop_eq_getElem_cons (by simpa using h)]; rfl

/-- begins with: as the library's own text has it -/
def hasP (s p : ByteArray) : Bool := decide (p.size ≤ s.size) && ((s.extract 0 p.size).toList == p.toList)

theorem size_eq (s : ByteArray) : s.size = s.data.toList.length := by
  simp only [Array.length_toList]
  rfl
theorem extract_data (s : ByteArray) (a b : Nat) : (s.extract a b).data.toList = (s.data.toList.drop a).take (b - a) := by
  have h : s = ⟨s.data.toList.toArray⟩ := by cases s; simp
  conv => lhs; rw [h]
  rw [ByteArray.extract_mk]
theorem extract_end (s : ByteArray) (a : Nat) : (s.extract a s.size).data.toList = s.data.toList.drop a := by
  rw [extract_data, List.take_of_length_le]
  rw [size_eq, List.length_drop]
  omega
theorem hasP_iff (s p : ByteArray) : hasP s p = true ↔ ∃ t, s.data.toList = p.data.toList ++ t := by
  unfold hasP
  simp only [Bool.and_eq_true, decide_eq_true_eq, beq_iff_eq, ByteArray.toList_eq, extract_data, List.drop_zero, Nat.sub_zero]
  constructor
  · rintro ⟨h1, h2⟩
    exact ⟨s.data.toList.drop p.size, by conv => rhs; lhs; rw [← h2]
                                         rw [List.take_append_drop]⟩
  · rintro ⟨t, ht⟩
    rw [size_eq s, size_eq p, ht]
    simp
theorem hasP_one (s : ByteArray) (c : UInt8) : hasP s ⟨#[c]⟩ = true ↔ ∃ t, s.data.toList = c :: t := by
  rw [hasP_iff]; simp

/-- what quotedEnd says of a text -/
def QEnd (s : ByteArray) (k : Nat) : Prop := k < s.size ∧ (∀ n, mrun s.data.toList 0 n = mrun (s.data.toList.drop (k + 1)) 2 n) ∧ ∀ c t, s.data.toList.drop (k + 1) = c :: t → c ≠ 39
def QAt (s : ByteArray) (k : Nat) : Prop := ∀ n, mrun s.data.toList 0 n = mrun (s.data.toList.drop k) 1 n
def QNone (s : ByteArray) : Prop := ∀ n, mrun s.data.toList 0 n = none

theorem qnone_of (s : ByteArray) (h : hasP s ⟨#[39]⟩ = false) : QNone s := by
  intro n
  cases e : s.data.toList with
  | nil => rfl
  | cons c t =>
    refine mrun_zero_other c t n ?_
    intro hc
    have : hasP s ⟨#[39]⟩ = true := (hasP_one s 39).2 ⟨t, by rw [e, hc]⟩
    rw [h] at this; cases this
theorem qat_one (s : ByteArray) (h : hasP s ⟨#[39]⟩ = true) : 1 ≤ s.size ∧ QAt s 1 := by
  obtain ⟨t, ht⟩ := (hasP_one s 39).1 h
  refine ⟨?_, fun n => ?_⟩
  · rw [size_eq, ht]; simp
  · rw [ht, mrun_zero_quote 39 t n rfl]; rfl
theorem ne39 (c : UInt8) (h : ((c.toNat : Int) != 39) = true) : c ≠ 39 := by
  rintro rfl; exact absurd h (by decide)
theorem eq39 (c : UInt8) (h : ((c.toNat : Int) != 39) = false) : c = 39 := by
  have h' : c.toNat = 39 := by
    have : (c.toNat : Int) = 39 := by simpa using h
    omega
  exact UInt8.toNat_inj.1 h'
theorem yes39 (c : UInt8) (h : ((c.toNat : Int) == 39) = true) : c = 39 := eq39 c (by simpa using h)
theorem no39 (c : UInt8) (h : ((c.toNat : Int) == 39) = false) : c ≠ 39 := by
  rintro rfl; exact absurd h (by decide)
theorem qat_other (s : ByteArray) (k : Nat) (h : k < s.size) (hq : QAt s k) (hc : s[k] ≠ 39) : QAt s (k + 1) := by
  intro n
  rw [hq n, drop_cons s k h, mrun_one_other _ _ _ hc]
theorem qat_two (s : ByteArray) (k : Nat) (h : k < s.size) (h1 : k + 1 < s.size) (hq : QAt s k) (hc : s[k] = 39) (hc1 : s[k + 1] = 39) : QAt s (k + 1 + 1) := by
  intro n
  rw [hq n, drop_cons s k h, mrun_one_quote _ _ _ hc, drop_cons s (k + 1) h1, mrun_two_quote _ _ _ hc1]
theorem qend_of (s : ByteArray) (k : Nat) (h : k < s.size) (hq : QAt s k) (hc : s[k] = 39) (hn : ∀ h1 : k + 1 < s.size, s[k + 1] ≠ 39) : QEnd s k := by
  refine ⟨h, fun n => ?_, fun c t e => ?_⟩
  · rw [hq n, drop_cons s k h, mrun_one_quote _ _ _ hc]
  · by_cases h1 : k + 1 < s.size
    · rw [drop_cons s (k + 1) h1] at e
      injection e with e1 e2
      rw [← e1]; exact hn h1
    · rw [List.drop_of_length_le (by rw [← size_eq]; omega)] at e
      cases e
theorem qnone_end (s : ByteArray) (k : Nat) (h : ¬ k < s.size) (hq : QAt s k) : QNone s := by
  intro n
  rw [hq n, List.drop_of_length_le (by rw [← size_eq]; omega)]
  rfl

/-! ### greatestMember's loop -/
def RunsTo (r : ByteArray) (n : Nat) (R : Option Nat) : Prop := mrun r.data.toList 0 n = R
def ans (isSet : Bool) : Option Nat → Int × Bool
  | none => (0, false)
  | some n => if isSet then (if 64 ≤ n then (0, false) else (2 ^ n - 1, true)) else (n, true)

theorem size_end (s : ByteArray) (a : Nat) : (s.extract a s.size).size = s.size - a := by
  rw [size_eq, extract_end, List.length_drop, ← size_eq]
theorem runs_none (q : ByteArray) (m : Nat) (R : Option Nat) (h : QNone q) (hR : RunsTo q m R) : R = none := by rw [← hR]; exact h m
theorem hasP_size (s : ByteArray) (c : UInt8) (h : hasP s ⟨#[c]⟩ = true) : 1 ≤ s.size := by
  obtain ⟨t, ht⟩ := (hasP_one s c).1 h
  rw [size_eq, ht]; simp
theorem runs_close (q : ByteArray) (k m : Nat) (R : Option Nat) (h : QEnd q k) (hR : RunsTo q m R) (hc : hasP (q.extract (k + 1) q.size) ⟨#[41]⟩ = true) : R = some (m + 1) := by
  obtain ⟨t, ht⟩ := (hasP_one _ 41).1 hc
  rw [extract_end] at ht
  rw [← hR, h.2.1 m, ht, mrun_two_close _ _ _ rfl]
theorem runs_on (q : ByteArray) (k m : Nat) (R : Option Nat) (h : QEnd q k) (hR : RunsTo q m R) (hc : hasP (q.extract (k + 1) q.size) ⟨#[44]⟩ = true) : RunsTo ((q.extract (k + 1) q.size).extract 1 (q.extract (k + 1) q.size).size) (m + 1) R := by
  obtain ⟨t, ht⟩ := (hasP_one _ 44).1 hc
  unfold RunsTo
  rw [extract_end, ht, ← hR, h.2.1 m, ← extract_end, ht, mrun_two_comma _ _ _ rfl]
  rfl
theorem size_two (q : ByteArray) (k : Nat) : ((q.extract (k + 1) q.size).extract 1 (q.size - (k + 1))).size = q.size - (k + 1) - 1 := by
  rw [← size_end q (k + 1), size_end]
theorem runs_on' (q : ByteArray) (k m : Nat) (R : Option Nat) (h : QEnd q k) (hR : RunsTo q m R) (hc : hasP (q.extract (k + 1) q.size) ⟨#[44]⟩ = true) : RunsTo ((q.extract (k + 1) q.size).extract 1 (q.size - (k + 1))) (m + 1) R := by
  have := runs_on q k m R h hR hc
  rwa [size_end q (k + 1)] at this
theorem runs_off (q : ByteArray) (k m : Nat) (R : Option Nat) (h : QEnd q k) (hR : RunsTo q m R) (hc : hasP (q.extract (k + 1) q.size) ⟨#[41]⟩ = false) (hd : hasP (q.extract (k + 1) q.size) ⟨#[44]⟩ = false) : R = none := by
  rw [← hR, h.2.1 m]
  cases e : q.data.toList.drop (k + 1) with
  | nil => rfl
  | cons c t =>
    have e' : (q.extract (k + 1) q.size).data.toList = c :: t := by rw [extract_end, e]
    refine mrun_two_other c t m (h.2.2 c t e) ?_ ?_
    · rintro rfl
      rw [(hasP_one _ 44).2 ⟨t, e'⟩] at hd; cases hd
    · rintro rfl
      rw [(hasP_one _ 41).2 ⟨t, e'⟩] at hc; cases hc

/-! ### the model's loop -/
/-- what holds at a round's head: the automaton, run on from here, comes to R; or it has closed and R is known -/
def MAt (s : ByteArray) (R : Option Nat) (k st n : Nat) (cl : Bool) : Prop :=
  if cl then R = some n else mrun (s.data.toList.drop k) st n = R
theorem mat_start (s : ByteArray) (a : Nat) (R : Option Nat) (h : RunsTo (s.extract a s.size) 0 R) : MAt s R a 0 0 false := by
  unfold MAt; rw [← h, extract_end]; rfl
theorem mat_closed (s : ByteArray) (R : Option Nat) (k st n : Nat) (h : MAt s R k st n true) : R = some n := h
theorem mat_end (s : ByteArray) (R : Option Nat) (k st n : Nat) (hk : ¬ k < s.size) (h : MAt s R k st n false) : R = none := by
  have h' : mrun (s.data.toList.drop k) st n = R := h
  rw [← h', List.drop_of_length_le (by rw [← size_eq]; omega)]; rfl
theorem mat_open {s : ByteArray} {R : Option Nat} {k st n : Nat} (hk : k < s.size) (h : MAt s R k st n false) : mrun (s[k] :: s.data.toList.drop (k + 1)) st n = R := by
  rw [← drop_cons s k hk]; exact h
theorem m0_quote (s : ByteArray) (R : Option Nat) (k n : Nat) (hk : k < s.size) (h : MAt s R k 0 n false) (c : s[k] = 39) : MAt s R (k + 1) 1 n false := by
  show mrun _ _ _ = R; rw [← mat_open hk h, mrun_zero_quote _ _ _ c]
theorem m0_other (s : ByteArray) (R : Option Nat) (k n : Nat) (hk : k < s.size) (h : MAt s R k 0 n false) (c : s[k] ≠ 39) : R = none := by
  rw [← mat_open hk h, mrun_zero_other _ _ _ c]
theorem m1_quote (s : ByteArray) (R : Option Nat) (k n : Nat) (hk : k < s.size) (h : MAt s R k 1 n false) (c : s[k] = 39) : MAt s R (k + 1) 2 n false := by
  show mrun _ _ _ = R; rw [← mat_open hk h, mrun_one_quote _ _ _ c]
theorem m1_other (s : ByteArray) (R : Option Nat) (k n : Nat) (hk : k < s.size) (h : MAt s R k 1 n false) (c : s[k] ≠ 39) : MAt s R (k + 1) 1 n false := by
  show mrun _ _ _ = R; rw [← mat_open hk h, mrun_one_other _ _ _ c]
theorem m2_quote (s : ByteArray) (R : Option Nat) (k n : Nat) (hk : k < s.size) (h : MAt s R k 2 n false) (c : s[k] = 39) : MAt s R (k + 1) 1 n false := by
  show mrun _ _ _ = R; rw [← mat_open hk h, mrun_two_quote _ _ _ c]
theorem m2_comma (s : ByteArray) (R : Option Nat) (k n : Nat) (hk : k < s.size) (h : MAt s R k 2 n false) (c : s[k] = 44) : MAt s R (k + 1) 0 (n + 1) false := by
  show mrun _ _ _ = R; rw [← mat_open hk h, mrun_two_comma _ _ _ c]
theorem m2_close (s : ByteArray) (R : Option Nat) (k n st : Nat) (hk : k < s.size) (h : MAt s R k 2 n false) (c : s[k] = 41) : MAt s R (k + 1) st (n + 1) true := by
  show R = some _; rw [← mat_open hk h, mrun_two_close _ _ _ c]
theorem m2_other (s : ByteArray) (R : Option Nat) (k n : Nat) (hk : k < s.size) (h : MAt s R k 2 n false) (c : s[k] ≠ 39) (c1 : s[k] ≠ 44) (c2 : s[k] ≠ 41) : R = none := by
  rw [← mat_open hk h, mrun_two_other _ _ _ c c1 c2]
theorem yes44 (c : UInt8) (h : ((c.toNat : Int) == 44) = true) : c = 44 := by
  have h' : c.toNat = 44 := by
    have : (c.toNat : Int) = 44 := by simpa using h
    omega
  exact UInt8.toNat_inj.1 h'
theorem no44 (c : UInt8) (h : ((c.toNat : Int) == 44) = false) : c ≠ 44 := by
  rintro rfl; exact absurd h (by decide)
theorem yes41 (c : UInt8) (h : ((c.toNat : Int) == 41) = true) : c = 41 := by
  have h' : c.toNat = 41 := by
    have : (c.toNat : Int) = 41 := by simpa using h
    omega
  exact UInt8.toNat_inj.1 h'
theorem no41 (c : UInt8) (h : ((c.toNat : Int) == 41) = false) : c ≠ 41 := by
  rintro rfl; exact absurd h (by decide)
theorem set_yes (s : ByteArray) (h : hasP s ⟨#[115, 101, 116, 40]⟩ = true) : 4 ≤ s.size ∧ ((s.extract 0 4).toList == [115, 101, 116, 40]) = true := by
  unfold hasP at h
  rw [Bool.and_eq_true, decide_eq_true_eq] at h
  refine ⟨h.1, ?_⟩
  have h2 := h.2
  rw [ByteArray.toList_eq ⟨#[115, 101, 116, 40]⟩] at h2
  exact h2
theorem set_no (s : ByteArray) (h : hasP s ⟨#[115, 101, 116, 40]⟩ = false) : ¬ 4 ≤ s.size ∨ (4 ≤ s.size ∧ ((s.extract 0 4).toList == [115, 101, 116, 40]) = false) := by
  by_cases h4 : 4 ≤ s.size
  · right
    refine ⟨h4, ?_⟩
    unfold hasP at h
    rw [ByteArray.toList_eq ⟨#[115, 101, 116, 40]⟩, show (⟨#[115, 101, 116, 40]⟩ : ByteArray).size = 4 from rfl, decide_eq_true h4, Bool.true_and] at h
    exact h
  · exact .inl h4
theorem enum_yes (s : ByteArray) (h : hasP s ⟨#[101, 110, 117, 109, 40]⟩ = true) : 5 ≤ s.size ∧ ((s.extract 0 5).toList == [101, 110, 117, 109, 40]) = true := by
  unfold hasP at h
  rw [Bool.and_eq_true, decide_eq_true_eq] at h
  refine ⟨h.1, ?_⟩
  have h2 := h.2
  rw [ByteArray.toList_eq ⟨#[101, 110, 117, 109, 40]⟩] at h2
  exact h2
theorem enum_no (s : ByteArray) (h : hasP s ⟨#[101, 110, 117, 109, 40]⟩ = false) : ¬ 5 ≤ s.size ∨ (5 ≤ s.size ∧ ((s.extract 0 5).toList == [101, 110, 117, 109, 40]) = false) := by
  by_cases h4 : 5 ≤ s.size
  · right
    refine ⟨h4, ?_⟩
    unfold hasP at h
    rw [ByteArray.toList_eq ⟨#[101, 110, 117, 109, 40]⟩, show (⟨#[101, 110, 117, 109, 40]⟩ : ByteArray).size = 5 from rfl, decide_eq_true h4, Bool.true_and] at h
    exact h
  · exact .inl h4

end Go.Proofs.Qxb6600799a.Gm
