/-
  A REGION THAT DRAWS ITS ORDER, EACH OPERATION OF WHICH LEAVES IN ITS SLOT A VALUE THAT MEETS A PREDICATE (not one value: a NaN's bits hang on the tape, and so on the order), in the world but for draws.
-/
import Derived.Deep.Draws
import Derived.Orders
import Derived.Test.Qxb6601308aFloat
namespace Go.Proofs.Qxb6601308a.Rg
open Go

variable {P : Program} {w : World} {W : Nat → Value → Prop}

/-- what one operation must do: its operands' slots as said, in whatever world behind draws: a value as said. -/
def StepOk (P : Program) (w : World) (W : Nat → Value → Prop) (o : Oper) : Prop :=
  ∀ (a : Act) (n : Nat), (∀ t, Operand.tmp t ∈ o.op.operands.toList → W t (a.eval (.tmp t))) →
    ∃ v m, (execOp a.eval o).run P (w.drewN n) = .ok (.value v) (w.drewN m) ∧ ∀ d, o.dst = some d → W d v

def StepsOk (P : Program) (w : World) (W : Nat → Value → Prop) : List Oper → Prop
  | [] => True
  | o :: l => StepOk P w W o ∧ StepsOk P w W l

/-- the frame at the end: for whatever values as said -/
def ForPuts (W : Nat → Value → Prop) : List Oper → Act → (Act → Prop) → Prop
  | [], a, Q => Q a
  | o :: l, a, Q => ∀ v, (∀ d, o.dst = some d → W d v) → ForPuts W l (a.put o.dst v) Q

def tmpOf : Operand → Option Nat
  | .tmp t => some t
  | _ => none

/-- the region's shape, by reckoning: no guard; each has a slot within the frame; edges lead back; who reads a slot of the region waits for its writer. -/
def shapeB (size : Nat) (ops : Array Oper) : Bool :=
  (List.range ops.size).all fun i =>
    match ops[i]? with
    | none => true
    | some o =>
      o.guard.isNone && (match o.dst with | some d => decide (d < size) | none => false) &&
      (o.after.toList.all fun e => decide (e.on < i) || !Region.binds .any e) &&
      (o.op.operands.toList.all fun x =>
        match tmpOf x with
        | none => true
        | some t => (List.range ops.size).all fun j =>
          match ops[j]? with
          | none => true
          | some oj => !(oj.dst == some t) || o.after.toList.any fun e => e.on == j && Region.binds .any e)

structure Shape (size : Nat) (ops : Array Oper) : Prop where
  guard : ∀ (i : Nat) (o : Oper), ops[i]? = some o → o.guard = none
  dst : ∀ (i : Nat) (o : Oper), ops[i]? = some o → ∃ d, o.dst = some d ∧ d < size
  back : ∀ (i : Nat) (o : Oper), ops[i]? = some o → ∀ e ∈ o.after, Region.binds .any e = true → e.on < i
  waits : ∀ (i : Nat) (o : Oper), ops[i]? = some o → ∀ t, Operand.tmp t ∈ o.op.operands.toList → ∀ (j : Nat) (oj : Oper), ops[j]? = some oj → oj.dst = some t → ∃ e ∈ o.after, e.on = j ∧ Region.binds .any e = true

theorem shape_of {size : Nat} {ops : Array Oper} (h : shapeB size ops = true) : Shape size ops := by
  have key : ∀ (i : Nat) (o : Oper), ops[i]? = some o → (o.guard.isNone = true ∧ (match o.dst with | some d => decide (d < size) | none => false) = true) ∧
      (o.after.toList.all fun e => decide (e.on < i) || !Region.binds .any e) = true ∧
      (o.op.operands.toList.all fun x =>
        match tmpOf x with
        | none => true
        | some t => (List.range ops.size).all fun j =>
          match ops[j]? with
          | none => true
          | some oj => !(oj.dst == some t) || o.after.toList.any fun e => e.on == j && Region.binds .any e) = true := by
    intro i o ho
    have hi : i < ops.size := by
      rcases Nat.lt_or_ge i ops.size with h | h
      · exact h
      · rw [Array.getElem?_eq_none h] at ho; cases ho
    unfold shapeB at h
    rw [List.all_eq_true] at h
    have := h i (List.mem_range.2 hi)
    rw [ho] at this
    simp only [Bool.and_eq_true] at this
    exact ⟨⟨this.1.1.1, this.1.1.2⟩, this.1.2, this.2⟩
  refine ⟨?_, ?_, ?_, ?_⟩
  · intro i o ho
    have := (key i o ho).1.1
    cases hg : o.guard with
    | none => rfl
    | some x => rw [hg] at this; cases this
  · intro i o ho
    have := (key i o ho).1.2
    cases hd : o.dst with
    | none => rw [hd] at this; cases this
    | some d => rw [hd] at this; exact ⟨d, rfl, of_decide_eq_true this⟩
  · intro i o ho e he hb
    have := (key i o ho).2.1
    rw [List.all_eq_true] at this
    have := this e (by simpa using he)
    rw [hb, Bool.not_true, Bool.or_false, decide_eq_true_eq] at this
    exact this
  · intro i o ho t ht j oj hj hd
    have := (key i o ho).2.2
    rw [List.all_eq_true] at this
    have := this _ ht
    simp only [tmpOf] at this
    rw [List.all_eq_true] at this
    have hjs : j < ops.size := by
      rcases Nat.lt_or_ge j ops.size with h | h
      · exact h
      · rw [Array.getElem?_eq_none h] at hj; cases hj
    have := this j (List.mem_range.2 hjs)
    rw [hj] at this
    simp only [hd, beq_self_eq_true, Bool.not_true, Bool.false_or, List.any_eq_true, Bool.and_eq_true, beq_iff_eq] at this
    obtain ⟨e, he, hj, hb⟩ := this
    exact ⟨e, by simpa using he, hj, hb⟩

/-- how many have not come up -/
def cnt : Nat → Array Bool → Nat
  | 0, _ => 0
  | n + 1, l => cnt n l + (if l.getD n true = false then 1 else 0)

theorem getD_set_ne (l : Array Bool) (i n : Nat) (b : Bool) (h : i ≠ n) : (l.setIfInBounds i true).getD n b = l.getD n b := by
  simp [Array.getD_eq_getD_getElem?, Array.getElem?_setIfInBounds_ne h]
theorem getD_set_same (l : Array Bool) (i : Nat) (h : l.getD i true = false) (b : Bool) : (l.setIfInBounds i true).getD i b = true := by
  have hi : i < l.size := by
    rcases Nat.lt_or_ge i l.size with h' | h'
    · exact h'
    · simp [Array.getD_eq_getD_getElem?, Array.getElem?_eq_none h'] at h
  simp [Array.getD_eq_getD_getElem?, Array.getElem?_setIfInBounds_self_of_lt hi]

theorem cnt_set_le (l : Array Bool) (i : Nat) (h : l.getD i true = false) : ∀ n, cnt n (l.setIfInBounds i true) ≤ cnt n l
  | 0 => Nat.le_refl _
  | n + 1 => by
    have ih := cnt_set_le l i h n
    unfold cnt
    by_cases e : i = n
    · subst e
      rw [getD_set_same l i h true]
      simp; omega
    · rw [getD_set_ne l i n true e]; omega
theorem cnt_set_lt (l : Array Bool) (i : Nat) (h : l.getD i true = false) : ∀ n, i < n → cnt n (l.setIfInBounds i true) + 1 ≤ cnt n l
  | 0, hi => absurd hi (Nat.not_lt_zero _)
  | n + 1, hi => by
    unfold cnt
    by_cases e : i = n
    · subst e
      have := cnt_set_le l i h i
      rw [getD_set_same l i h true, h]
      simp; omega
    · have ih := cnt_set_lt l i h n (by omega)
      rw [getD_set_ne l i n true e]; omega
theorem cnt_zero (l : Array Bool) : ∀ n, cnt n l = 0 → ∀ i, i < n → l.getD i true = true
  | 0, _, i, hi => absurd hi (Nat.not_lt_zero _)
  | n + 1, h, i, hi => by
    unfold cnt at h
    by_cases e : i = n
    · subst e
      cases hb : l.getD i true with
      | true => rfl
      | false => rw [hb] at h; simp at h
    · exact cnt_zero l n (by omega) i (by omega)
theorem cnt_le (l : Array Bool) : ∀ n, cnt n l ≤ n
  | 0 => Nat.le_refl _
  | n + 1 => by
    have := cnt_le l n
    unfold cnt
    split <;> omega

/-- what holds in the midst of the region -/
structure Inv (w : World) (W : Nat → Value → Prop) (ops : Array Oper) (a0 : Act) (listed : Array Bool) (a : Act) (w' : World) : Prop where
  world : ∃ n, w' = w.drewN n
  defers : a.defers = a0.defers
  size : a.tmps.size = a0.tmps.size
  lsize : listed.size = ops.size
  done : ∀ (i : Nat) (o : Oper) (d : Nat), ops[i]? = some o → o.dst = some d → listed.getD i false = true → W d (a.eval (.tmp d))
  same : ∀ n, (∀ (i : Nat) (o : Oper), ops[i]? = some o → o.dst ≠ some n) → a.tmps[n]? = a0.tmps[n]?

theorem ready_step {ops : Array Oper} {a0 : Act} (S : Shape a0.tmps.size ops) (huniq : ∀ (i j : Nat) (oi oj : Oper) (d : Nat), ops[i]? = some oi → ops[j]? = some oj → oi.dst = some d → oj.dst = some d → i = j)
    (hin : ∀ t, (∀ (i : Nat) (o : Oper), ops[i]? = some o → o.dst ≠ some t) → W t (a0.eval (.tmp t)))
    {Q : Exit → Act → World → Prop} {listed : Array Bool} {a : Act} {w' : World} (hI : Inv w W ops a0 listed a w') {i : Nat} {o : Oper} (ho : ops[i]? = some o) (hl : listed.getD i true = false)
    (hall : ∀ e ∈ o.after, Region.binds .any e = true → listed.getD e.on false = true) (hs : StepOk P w W o) {K : Act → World → Prop}
    (hK : ∀ a' w'', Inv w W ops a0 (listed.setIfInBounds i true) a' w'' → K a' w'') : wpOp P ops Q i K a w' := by
  obtain ⟨n, rfl⟩ := hI.world
  obtain ⟨v, m, hrun, hv⟩ := hs a n (fun t ht => by
    by_cases hwr : ∃ (j : Nat) (oj : Oper), ops[j]? = some oj ∧ oj.dst = some t
    · obtain ⟨j, oj, hj, hd⟩ := hwr
      obtain ⟨e, he, heq, hb⟩ := S.waits i o ho t ht j oj hj hd
      have := hall e he hb
      rw [heq] at this
      exact hI.done j oj t hj hd this
    · have hno : ∀ (j : Nat) (oj : Oper), ops[j]? = some oj → oj.dst ≠ some t := fun j oj hj hd => hwr ⟨j, oj, hj, hd⟩
      have e1 := hI.same t hno
      have e2 : a.eval (.tmp t) = a0.eval (.tmp t) := by
        simp only [Act.eval, Array.getD_eq_getD_getElem?, e1]
      rw [e2]; exact hin t hno)
  unfold wpOp
  simp only [ho]
  have hg := S.guard i o ho
  have hw : Region.wanted o (yielded ops a.tmps) = true := by unfold Region.wanted; rw [hg]
  rw [if_pos hw]
  left
  unfold Oper.wp
  rw [hrun, Oper.upon_value]
  obtain ⟨d, hd, hdlt⟩ := S.dst i o ho
  have hsz : d < a.tmps.size := by rw [hI.size]; exact hdlt
  have hput : a.put o.dst v = { a with tmps := a.tmps.setIfInBounds d v } := by rw [hd]; rfl
  apply hK
  rw [hput]
  refine ⟨⟨m, rfl⟩, hI.defers, by simpa using hI.size, by simpa using hI.lsize, ?_, ?_⟩
  · intro j oj dj hj hdj hlj
    by_cases e : j = i
    · subst e
      rw [ho] at hj; cases hj
      rw [hd] at hdj; cases hdj
      have : (Act.eval { a with tmps := a.tmps.setIfInBounds d v } (.tmp d)) = v := by
        simp [Act.eval, Array.getD_eq_getD_getElem?, Array.getElem?_setIfInBounds_self_of_lt hsz]
      rw [this]; exact hv d hd
    · rw [getD_set_ne listed i j false (fun h => e h.symm)] at hlj
      have hne : d ≠ dj := fun h => e (huniq j i oj o dj hj ho hdj (by rw [hd, h]))
      have : (Act.eval { a with tmps := a.tmps.setIfInBounds d v } (.tmp dj)) = a.eval (.tmp dj) := by
        simp [Act.eval, Array.getD_eq_getD_getElem?, Array.getElem?_setIfInBounds_ne hne]
      rw [this]; exact hI.done j oj dj hj hdj hlj
  · intro n hn
    have hne : d ≠ n := fun h => hn i o ho (by rw [hd, h])
    simp only [Array.getElem?_setIfInBounds_ne hne]
    exact hI.same n hn

theorem stepsOk_mem : ∀ {l : List Oper} {i : Nat} {o : Oper}, StepsOk P w W l → l[i]? = some o → StepOk P w W o
  | [], _, _, _, h => by simp at h
  | o :: l, 0, o', hs, h => by simp at h; subst h; exact hs.1
  | o :: l, i + 1, o', hs, h => by simp at h; exact stepsOk_mem hs.2 h

theorem any_of_inv {ops : Array Oper} {a0 : Act} (S : Shape a0.tmps.size ops) (huniq : ∀ (i j : Nat) (oi oj : Oper) (d : Nat), ops[i]? = some oi → ops[j]? = some oj → oi.dst = some d → oj.dst = some d → i = j)
    (hin : ∀ t, (∀ (i : Nat) (o : Oper), ops[i]? = some o → o.dst ≠ some t) → W t (a0.eval (.tmp t))) (hs : ∀ (i : Nat) (o : Oper), ops[i]? = some o → StepOk P w W o)
    {Q : Exit → Act → World → Prop} (hQ : ∀ listed a w', Inv w W ops a0 listed a w' → (∀ i, i < ops.size → listed.getD i false = true) → Q .normal a w') :
    ∀ (fuel : Nat) (listed : Array Bool) (a : Act) (w' : World), Inv w W ops a0 listed a w' → cnt ops.size listed ≤ fuel → wpAny P .any ops Q fuel listed a w' := by
  have full : ∀ listed : Array Bool, listed.size = ops.size → (∀ i, i < ops.size → listed.getD i true = true) → ∀ i, i < ops.size → listed.getD i false = true := by
    intro listed hsz h i hi
    have := h i hi
    simp [Array.getD_eq_getD_getElem?, Array.getElem?_eq_getElem (show i < listed.size by omega)] at this ⊢
    exact this
  have fin : ∀ listed a w', Inv w W ops a0 listed a w' → Region.ready .any ops listed = [] → Q .normal a w' := by
    intro listed a w' hI hr
    refine hQ listed a w' hI (full listed hI.lsize ?_)
    intro i
    induction i using Nat.strongRecOn with
    | ind i ih =>
      intro hi
      cases hb : listed.getD i true with
      | true => rfl
      | false =>
        exfalso
        have hmem : i ∈ Region.ready .any ops listed := mem_ready.2 ⟨hb, ops[i], Array.getElem?_eq_getElem hi, fun e he hbe => by
          have hlt := S.back i ops[i] (Array.getElem?_eq_getElem hi) e he hbe
          have := ih e.on hlt (by omega)
          simp [Array.getD_eq_getD_getElem?, Array.getElem?_eq_getElem (show e.on < listed.size by rw [hI.lsize]; omega)] at this ⊢
          exact this⟩
        rw [hr] at hmem; cases hmem
  intro fuel
  induction fuel with
  | zero =>
    intro listed a w' hI hc
    have hall := cnt_zero listed ops.size (by omega)
    have hr : Region.ready .any ops listed = [] := by
      cases hr : Region.ready .any ops listed with
      | nil => rfl
      | cons i l =>
        exfalso
        have hm : i ∈ Region.ready .any ops listed := by rw [hr]; exact List.mem_cons_self ..
        obtain ⟨hb, o, ho, _⟩ := mem_ready.1 hm
        have hi : i < ops.size := by
          rcases Nat.lt_or_ge i ops.size with h | h
          · exact h
          · rw [Array.getElem?_eq_none h] at ho; cases ho
        rw [hall i hi] at hb; cases hb
    exact ⟨hr, fin listed a w' hI hr⟩
  | succ fuel ih =>
    intro listed a w' hI hc
    refine ⟨fin listed a w' hI, fun i hi => ?_⟩
    obtain ⟨hb, o, ho, hall⟩ := mem_ready.1 hi
    have hlt : i < ops.size := by
      rcases Nat.lt_or_ge i ops.size with h | h
      · exact h
      · rw [Array.getElem?_eq_none h] at ho; cases ho
    refine ready_step S huniq hin hI ho hb hall (hs i o ho) ?_
    intro a' w'' hI'
    refine ih _ a' w'' hI' ?_
    have := cnt_set_lt listed i hb ops.size hlt
    omega

/-! ### the frame at the end -/
def putF (f : Nat → Value) : List Oper → Act → Act
  | [], a => a
  | o :: l, a => putF f l (match o.dst with | some d => a.put (some d) (f d) | none => a.put none undef)

theorem forPuts_putF (f : Nat → Value) {Q : Act → Prop} : ∀ (l : List Oper) (a : Act), (∀ o ∈ l, ∀ d, o.dst = some d → W d (f d)) → ForPuts W l a Q → Q (putF f l a)
  | [], _, _, h => h
  | o :: l, a, hW, h => by
    unfold putF
    cases hd : o.dst with
    | none =>
      have := h undef (fun d hd' => by rw [hd] at hd'; cases hd')
      rw [hd] at this
      exact forPuts_putF f l _ (fun o' ho' => hW o' (List.mem_cons_of_mem _ ho')) this
    | some d =>
      have := h (f d) (fun d' hd' => by rw [hd] at hd'; cases hd'; exact hW o (List.mem_cons_self ..) d hd)
      rw [hd] at this
      exact forPuts_putF f l _ (fun o' ho' => hW o' (List.mem_cons_of_mem _ ho')) this

theorem putF_spec (f : Nat → Value) : ∀ (l : List Oper) (a : Act), (putF f l a).defers = a.defers ∧ (putF f l a).tmps.size = a.tmps.size ∧
    ∀ n, (putF f l a).tmps[n]? = if (∃ o ∈ l, o.dst = some n) ∧ n < a.tmps.size then some (f n) else a.tmps[n]?
  | [], a => ⟨rfl, rfl, fun n => by rw [if_neg (by rintro ⟨⟨o, ho, _⟩, _⟩; cases ho)]; rfl⟩
  | o :: l, a => by
    unfold putF
    cases hd : o.dst with
    | none =>
      obtain ⟨h1, h2, h3⟩ := putF_spec f l a
      refine ⟨h1, h2, fun n => ?_⟩
      show (putF f l a).tmps[n]? = _
      rw [h3 n]
      have : (∃ o' ∈ o :: l, o'.dst = some n) ↔ ∃ o' ∈ l, o'.dst = some n := by
        constructor
        · rintro ⟨o', ho', hn⟩
          rcases List.mem_cons.1 ho' with rfl | h
          · rw [hd] at hn; cases hn
          · exact ⟨o', h, hn⟩
        · rintro ⟨o', ho', hn⟩; exact ⟨o', List.mem_cons_of_mem _ ho', hn⟩
      simp only [this]
    | some d =>
      obtain ⟨h1, h2, h3⟩ := putF_spec f l { a with tmps := a.tmps.setIfInBounds d (f d) }
      have h2' : (putF f l { a with tmps := a.tmps.setIfInBounds d (f d) }).tmps.size = a.tmps.size := by rw [h2]; simp
      refine ⟨h1, h2', fun n => ?_⟩
      show (putF f l { a with tmps := a.tmps.setIfInBounds d (f d) }).tmps[n]? = _
      rw [h3 n]
      simp only [Array.size_setIfInBounds]
      by_cases hn : n < a.tmps.size
      · by_cases hl : ∃ o' ∈ l, o'.dst = some n
        · rw [if_pos ⟨hl, hn⟩, if_pos ⟨let ⟨o', h, e⟩ := hl; ⟨o', List.mem_cons_of_mem _ h, e⟩, hn⟩]
        · rw [if_neg (fun h => hl h.1)]
          by_cases e : d = n
          · subst e
            rw [if_pos ⟨⟨o, List.mem_cons_self .., hd⟩, hn⟩, Array.getElem?_setIfInBounds_self_of_lt hn]
          · rw [if_neg, Array.getElem?_setIfInBounds_ne e]
            rintro ⟨⟨o', ho', hn'⟩, _⟩
            rcases List.mem_cons.1 ho' with rfl | h
            · rw [hd] at hn'; cases hn'; exact e rfl
            · exact hl ⟨o', h, hn'⟩
      · rw [if_neg (fun h => hn h.2), if_neg (fun h => hn h.2)]
        have hn' : a.tmps.size ≤ n := Nat.le_of_not_lt hn
        rw [Array.getElem?_eq_none (by simpa using hn'), Array.getElem?_eq_none hn']

/-- each slot has one writer -/
def uniqB (ops : List Oper) : Bool := (List.range ops.length).all fun i => (List.range ops.length).all fun j => decide (i = j) || !((ops[i]?).bind (·.dst) == (ops[j]?).bind (·.dst))

theorem uniq_of {l : List Oper} (h : uniqB l = true) : ∀ (i j : Nat) (oi oj : Oper) (d : Nat), l.toArray[i]? = some oi → l.toArray[j]? = some oj → oi.dst = some d → oj.dst = some d → i = j := by
  intro i j oi oj d hi hj di dj
  unfold uniqB at h
  rw [List.all_eq_true] at h
  have li : i < l.length := by
    rcases Nat.lt_or_ge i l.length with h | h
    · exact h
    · rw [Array.getElem?_eq_none (by simpa using h)] at hi; cases hi
  have lj : j < l.length := by
    rcases Nat.lt_or_ge j l.length with h | h
    · exact h
    · rw [Array.getElem?_eq_none (by simpa using h)] at hj; cases hj
  have h1 := h i (List.mem_range.2 li)
  rw [List.all_eq_true] at h1
  have h2 := h1 j (List.mem_range.2 lj)
  simp only [List.getElem?_toArray] at hi hj
  rw [hi, hj] at h2
  simp only [Option.bind_some, di, dj, beq_self_eq_true, Bool.not_true, Bool.or_false, decide_eq_true_eq] at h2
  exact h2

/-- THE LAW. -/
theorem wp_region_spec {id : Nat} {Q : Exit → Act → World → Prop} {a0 : Act} {l : List Oper} (W : Nat → Value → Prop) (size : Nat) (hsz : a0.tmps.size = size)
    (hm : P.follows .mixedOrders = true) (hB : shapeB size l.toArray = true) (hU : uniqB l = true)
    (hin : ∀ t, (∀ o ∈ l, o.dst ≠ some t) → W t (a0.eval (.tmp t)))
    (hs : StepsOk P w W l) (h : ForPuts W l a0 fun a => ∀ n, Q .normal a (w.drewN n)) : (Code.region id l.toArray true).wp P Q a0 w := by
  subst hsz
  have S := shape_of hB
  refine wp_region_any hm ?_
  refine any_of_inv (w := w) (W := W) S (uniq_of hU) (fun t ht => hin t (fun o ho hd => ?_)) (fun i o ho => stepsOk_mem hs (by simpa using ho)) ?_ _ _ _ _ ?_ ?_
  · obtain ⟨i, hi, e⟩ := List.getElem_of_mem ho
    exact ht i o (by simp [hi, e]) hd
  · intro listed a w' hI hall
    obtain ⟨n, rfl⟩ := hI.world
    have hp := forPuts_putF (fun d => a.eval (.tmp d)) l a0 (fun o ho d hd => by
      obtain ⟨i, hi, e⟩ := List.getElem_of_mem ho
      exact hI.done i o d (by simp [hi, e]) hd (hall i (by simpa using hi))) h
    have e : putF (fun d => a.eval (.tmp d)) l a0 = a := by
      obtain ⟨h1, h2, h3⟩ := putF_spec (fun d => a.eval (.tmp d)) l a0
      have ht : (putF (fun d => a.eval (.tmp d)) l a0).tmps = a.tmps := by
        apply Array.ext_getElem?
        intro k
        rw [h3 k]
        by_cases hk : k < a0.tmps.size
        · by_cases hw : ∃ o ∈ l, o.dst = some k
          · rw [if_pos ⟨hw, hk⟩]
            have : k < a.tmps.size := by rw [hI.size]; exact hk
            simp [Act.eval, Array.getD_eq_getD_getElem?, Array.getElem?_eq_getElem this]
          · rw [if_neg (fun h => hw h.1)]
            refine (hI.same k ?_).symm
            intro i o ho hd
            exact hw ⟨o, List.mem_of_getElem? (by simpa using ho), hd⟩
        · rw [if_neg (fun h => hk h.2), Array.getElem?_eq_none (by omega), Array.getElem?_eq_none (by rw [hI.size]; omega)]
      cases a with
      | mk t d =>
        have hd : (putF (fun d' => Act.eval ⟨t, d⟩ (.tmp d')) l a0).defers = d := by rw [h1]; exact hI.defers.symm
        revert ht hd
        generalize putF (fun d' => Act.eval ⟨t, d⟩ (.tmp d')) l a0 = b
        intro ht hd
        cases b; simp at ht hd; rw [ht, hd]
    rw [e] at hp
    exact hp n
  · refine ⟨⟨1, rfl⟩, rfl, rfl, by simp, ?_, fun _ _ => rfl⟩
    intro i o d ho hd hl
    exfalso
    simp [Array.getD_eq_getD_getElem?, Array.getElem?_replicate] at hl
    split at hl <;> simp at hl
  · exact cnt_le _ _

/-! ### predicates by tables: what the region's operations leave ('out', a row an operation), what was there ('inp') -/
def look (n : Nat) : List (Nat × (Value → Prop)) → Option (Value → Prop)
  | [] => none
  | p :: l => cond (Nat.beq p.1 n) (some p.2) (look n l)
def mkW (out inp : List (Nat × (Value → Prop))) (n : Nat) : Value → Prop :=
  match look n out with
  | some p => p
  | none => match look n inp with
    | some p => p
    | none => fun _ => True

theorem look_none {n : Nat} : ∀ {l : List (Nat × (Value → Prop))}, (∀ p ∈ l, p.1 ≠ n) → look n l = none
  | [], _ => rfl
  | p :: l, h => by
    unfold look
    have h1 : Nat.beq p.1 n = false := by
      cases hb : Nat.beq p.1 n with
      | false => rfl
      | true => exact absurd (Nat.eq_of_beq_eq_true hb) (h p (List.mem_cons_self ..))
    rw [h1]
    exact look_none (fun q hq => h q (List.mem_cons_of_mem _ hq))
theorem look_mem {n : Nat} {q : Value → Prop} : ∀ {l : List (Nat × (Value → Prop))}, look n l = some q → (n, q) ∈ l
  | [], h => by cases h
  | p :: l, h => by
    unfold look at h
    cases hb : Nat.beq p.1 n with
    | true =>
      rw [hb] at h
      have e := Nat.eq_of_beq_eq_true hb
      cases h
      rw [← e]; exact List.mem_cons_self ..
    | false => rw [hb] at h; exact List.mem_cons_of_mem _ (look_mem h)

/-- the values, in the text's order -/
def ForOut : List (Nat × (Value → Prop)) → Act → (Act → Prop) → Prop
  | [], a, Q => Q a
  | p :: l, a, Q => ∀ v, p.2 v → ForOut l (a.put (some p.1) v) Q

def Ex (u : Value) : Value → Prop := fun v => v = u
def Fl (c : Option Nat) : Value → Prop := fun v => ∃ r, v = .float .f64 r ∧ Fl.cl r = c

theorem forOut_nil (a : Act) (Q : Act → Prop) : ForOut [] a Q = Q a := rfl
theorem forOut_ex (d : Nat) (u : Value) (l : List (Nat × (Value → Prop))) (a : Act) (Q : Act → Prop) : ForOut ((d, Ex u) :: l) a Q = ForOut l (a.put (some d) u) Q :=
  propext ⟨fun h => h u rfl, fun h v hv => by cases hv; exact h⟩
theorem forOut_fl (d : Nat) (c : Option Nat) (l : List (Nat × (Value → Prop))) (a : Act) (Q : Act → Prop) : ForOut ((d, Fl c) :: l) a Q = ∀ r, Fl.cl r = c → ForOut l (a.put (some d) (.float .f64 r)) Q :=
  propext ⟨fun h r hr => h _ ⟨r, rfl, hr⟩, fun h v ⟨r, e, hr⟩ => by cases e; exact h r hr⟩

theorem forPuts_of_out {W : Nat → Value → Prop} {Q : Act → Prop} : ∀ (l : List Oper) (out : List (Nat × (Value → Prop))) (a : Act), l.map (·.dst) = out.map (fun p => some p.1) → (∀ p ∈ out, W p.1 = p.2) → ForOut out a Q → ForPuts W l a Q
  | [], [], _, _, _, h => h
  | [], _ :: _, _, e, _, _ => by cases e
  | _ :: _, [], _, e, _, _ => by cases e
  | o :: l, p :: out, a, e, hW, h => by
    simp only [List.map_cons, List.cons.injEq] at e
    intro v hv
    rw [e.1]
    refine forPuts_of_out l out _ e.2 (fun q hq => hW q (List.mem_cons_of_mem _ hq)) (h v ?_)
    rw [← hW p (List.mem_cons_self ..)]
    exact hv p.1 e.1

/-- no slot twice -/
def nodupB : List Nat → Bool
  | [] => true
  | n :: l => l.all (fun m => !Nat.beq n m) && nodupB l

theorem look_of_mem : ∀ {out : List (Nat × (Value → Prop))}, nodupB (out.map (·.1)) = true → ∀ p ∈ out, look p.1 out = some p.2
  | [], _, p, hp => by cases hp
  | q :: out, h, p, hp => by
    simp only [List.map_cons, nodupB, Bool.and_eq_true, List.all_eq_true] at h
    unfold look
    rcases List.mem_cons.1 hp with rfl | hp'
    · have : Nat.beq p.1 p.1 = true := Nat.beq_refl _
      rw [this]; rfl
    · have h1 := h.1 p.1 (List.mem_map.2 ⟨p, hp', rfl⟩)
      have h2 : Nat.beq q.1 p.1 = false := by simpa using h1
      rw [h2]
      exact look_of_mem h.2 p hp'

/-- THE LAW, BY TABLES. -/
theorem wp_region_tbl {id : Nat} {Q : Exit → Act → World → Prop} {a0 : Act} {l : List Oper} (out inp : List (Nat × (Value → Prop))) (size : Nat) (hsz : a0.tmps.size = size)
    (hm : P.follows .mixedOrders = true) (hB : shapeB size l.toArray = true) (hU : uniqB l = true) (hk : l.map (·.dst) = out.map (fun p => some p.1)) (hn : nodupB (out.map (·.1)) = true)
    (hin : ∀ p ∈ inp, p.2 (a0.eval (.tmp p.1)))
    (hs : StepsOk P w (mkW out inp) l) (h : ForOut out a0 fun a => ∀ n, Q .normal a (w.drewN n)) : (Code.region id l.toArray true).wp P Q a0 w := by
  refine wp_region_spec (mkW out inp) size hsz hm hB hU ?_ hs ?_
  · intro t ht
    have h0 : look t out = none := look_none (fun p hp e => by
      have : (some p.1 : Option Nat) ∈ l.map (·.dst) := by rw [hk]; exact List.mem_map.2 ⟨p, hp, rfl⟩
      obtain ⟨o, ho, hd⟩ := List.mem_map.1 this
      exact ht o ho (by rw [hd, e]))
    unfold mkW
    rw [h0]
    cases hi : look t inp with
    | none => exact trivial
    | some q => exact hin _ (look_mem hi)
  · refine forPuts_of_out l out a0 hk (fun p hp => ?_) h
    unfold mkW
    rw [look_of_mem hn p hp]

/-! ### the steps -/
section
variable {d x y ty ty' ty'' : Nat} {pos : String} {af : Array Edge}
theorem st_move (h : ∀ v, W x v → W d v) : StepOk P w W ⟨some d, .move (.tmp x), ty, pos, af, none⟩ := fun a n ho =>
  ⟨a.eval (.tmp x), n, rfl, fun d' hd => by cases hd; exact h _ (ho x (by simp [Op.operands]))⟩
theorem st_assign (h : ∀ v, W x v → W d v) : StepOk P w W ⟨some d, .assign (.tmp x), ty, pos, af, none⟩ := fun a n ho =>
  ⟨a.eval (.tmp x), n, rfl, fun d' hd => by cases hd; exact h _ (ho x (by simp [Op.operands]))⟩
theorem st_nil {p : Addr} (h : ∀ v, W x v → v = .pointer (some p)) (hd : W d (.pointer (some p))) : StepOk P w W ⟨some d, .nilCheck (.tmp x), ty, pos, af, none⟩ := fun a n ho => by
  have e := h _ (ho x (by simp [Op.operands]))
  refine ⟨.pointer (some p), n, ?_, fun d' h' => by cases h'; exact hd⟩
  simp only [execOp, e]; rfl
theorem st_field {k : Nat} {u v : Value} (h : ∀ z, W x z → z = u) (hr : ∀ w, (Instr.fieldAt ty' u k).run P w = .ok v w) (hd : W d v) : StepOk P w W ⟨some d, .fieldAddr ty' (.tmp x) k, ty, pos, af, none⟩ := fun a n ho => by
  have e := h _ (ho x (by simp [Op.operands]))
  refine ⟨v, n, ?_, fun d' h' => by cases h'; exact hd⟩
  simp only [execOp, e, Sem.run_bind, hr]; rfl
theorem st_index {u u' v : Value} (h : ∀ z, W x z → z = u) (h' : ∀ z, W y z → z = u') (hr : ∀ w, (Instr.indexAt ty' u u').run P w = .ok v w) (hd : W d v) : StepOk P w W ⟨some d, .indexAddr ty' (.tmp x) (.tmp y), ty, pos, af, none⟩ := fun a n ho => by
  have e := h _ (ho x (by simp [Op.operands]))
  have e' := h' _ (ho y (by simp [Op.operands]))
  refine ⟨v, n, ?_, fun d' h' => by cases h'; exact hd⟩
  simp only [execOp, e, e', Sem.run_bind, hr]; rfl
theorem st_index_const {u c v : Value} (h : ∀ z, W x z → z = u) (hr : ∀ w, (Instr.indexAt ty' u c).run P w = .ok v w) (hd : W d v) : StepOk P w W ⟨some d, .indexAddr ty' (.tmp x) (.const c), ty, pos, af, none⟩ := fun a n ho => by
  have e := h _ (ho x (by simp [Op.operands]))
  refine ⟨v, n, ?_, fun d' h' => by cases h'; exact hd⟩
  have e' : a.eval (.const c) = c := rfl
  simp only [execOp, e, e', Sem.run_bind, hr]; rfl
theorem st_load {u v : Value} (h : ∀ z, W x z → z = u) (hr : ∀ n, (Instr.loadAt ty' u).run P (w.drewN n) = .ok v (w.drewN n)) (hd : W d v) : StepOk P w W ⟨some d, .load ty' (.tmp x), ty, pos, af, none⟩ := fun a n ho => by
  have e := h _ (ho x (by simp [Op.operands]))
  refine ⟨v, n, ?_, fun d' h' => by cases h'; exact hd⟩
  simp only [execOp, e, Sem.run_bind, hr]; rfl
theorem st_sub {k : IntKind} {m n' r : Int} (h : ∀ z, W x z → z = .int k m) (h' : ∀ z, W y z → z = .int k n') (hr : ∀ w, (binOp .sub ty' (.int k m) (.int k n')).run P w = .ok (.int k r) w) (hd : W d (.int k r)) :
    StepOk P w W ⟨some d, .binOp .sub ty' (.tmp x) (.tmp y) ty'', ty, pos, af, none⟩ := fun a n ho => by
  have e := h _ (ho x (by simp [Op.operands]))
  have e' := h' _ (ho y (by simp [Op.operands]))
  refine ⟨.int k r, n, ?_, fun d' h' => by cases h'; exact hd⟩
  simp only [execOp, e, e', eqGuard, Bool.not_false, if_true, Sem.run_bind, Sem.run_pure, Result.andThen_ok, hr]
theorem st_fmul {c c' : Option Nat} (h : ∀ z, W x z → Fl c z) (h' : ∀ z, W y z → Fl c' z) (hd : ∀ z, Fl (Fl.fmul c c') z → W d z) :
    StepOk P w W ⟨some d, .binOp .mul ty' (.tmp x) (.tmp y) ty'', ty, pos, af, none⟩ := fun a n ho => by
  obtain ⟨r, e, er⟩ := h _ (ho x (by simp [Op.operands]))
  obtain ⟨r', e', er'⟩ := h' _ (ho y (by simp [Op.operands]))
  obtain ⟨q, m, hq, hc⟩ := Fl.run_fmul (P := P) (w.drewN n) ty' r r'
  refine ⟨.float .f64 q, n + m, ?_, fun d' h' => by cases h'; exact hd _ ⟨q, rfl, by rw [hc, er, er']⟩⟩
  simp only [execOp, e, e', eqGuard, Bool.not_false, if_true, Sem.run_bind, Sem.run_pure, Result.andThen_ok, hq, World.drewN_drewN]
theorem st_fadd {c c' : Option Nat} (h : ∀ z, W x z → Fl c z) (h' : ∀ z, W y z → Fl c' z) (hd : ∀ z, Fl (Fl.fadd c c') z → W d z) :
    StepOk P w W ⟨some d, .binOp .add ty' (.tmp x) (.tmp y) ty'', ty, pos, af, none⟩ := fun a n ho => by
  obtain ⟨r, e, er⟩ := h _ (ho x (by simp [Op.operands]))
  obtain ⟨r', e', er'⟩ := h' _ (ho y (by simp [Op.operands]))
  obtain ⟨q, m, hq, hc⟩ := Fl.run_fadd (P := P) (w.drewN n) ty' r r'
  refine ⟨.float .f64 q, n + m, ?_, fun d' h' => by cases h'; exact hd _ ⟨q, rfl, by rw [hc, er, er']⟩⟩
  simp only [execOp, e, e', eqGuard, Bool.not_false, if_true, Sem.run_bind, Sem.run_pure, Result.andThen_ok, hq, World.drewN_drewN]
theorem fl_ex {r : Nat} : ∀ z, Ex (.float .f64 r) z → Fl (Fl.cl r) z := fun _ h => ⟨r, h, rfl⟩
end

end Go.Proofs.Qxb6601308a.Rg
