/-
  A REGION THAT DRAWS ITS ORDER, WHOSE OPERATIONS READ, CALL AND MAKE MEMORY (nothing that was there turns), AND WHOSE LAST ONE, WHICH WAITS FOR ALL OTHERS, STORES.
-/
import Derived.Below
import Derived.Test.Qxb6601308aRegion
namespace Go.Proofs.Qxb6601308a.Rg
open Go
set_option linter.unusedVariables false

/-- only new memory, only draws -/
def Ext (w w' : World) : Prop := RowKit.Below w.heap.size w w'
theorem Ext.refl (w : World) : Ext w w := RowKit.Below.refl _ _
theorem Ext.trans {a b c : World} (h : Ext a b) (k : Ext b c) : Ext a c := RowKit.Below.trans h (RowKit.Below.mono k h.size)
theorem Ext.drewN (w : World) (n : Nat) : Ext w (w.drewN n) := ⟨rfl, rfl, rfl, Nat.le_refl _, fun _ _ => rfl⟩
theorem Ext.alloc (w : World) (o : Obj) : Ext w (w.alloc o) := RowKit.Below.alloc (RowKit.Below.refl _ _) (Nat.le_refl _) o
theorem Ext.cell {w w' : World} (h : Ext w w') {p : Addr} {v : Value} (hc : w.cell? p = some v) : w'.cell? p = some v := by
  rw [RowKit.Below.cell h (World.block_lt_of_cell? w _ hc)]; exact hc

section
variable {P : Program} {w0 : World} {W : Nat → Value → World → Prop}

def StepX (P : Program) (w0 : World) (W : Nat → Value → World → Prop) (o : Oper) : Prop :=
  ∀ (a : Act) (w' : World), Ext w0 w' → (∀ t, Operand.tmp t ∈ o.op.operands.toList → W t (a.eval (.tmp t)) w') →
    ∀ (K : Act → World → Prop) (Q : Exit → Act → World → Prop), (∀ v w'', Ext w' w'' → (∀ d, o.dst = some d → W d v w'') → K (a.put o.dst v) w'') → o.wp P a w' K Q

def StepsX (P : Program) (w0 : World) (W : Nat → Value → World → Prop) : List Oper → Prop
  | [] => True
  | o :: l => StepX P w0 W o ∧ StepsX P w0 W l
theorem stepsX_cons {o : Oper} {l : List Oper} (h1 : StepX P w0 W o) (h2 : StepsX P w0 W l) : StepsX P w0 W (o :: l) := ⟨h1, h2⟩
theorem stepsX_mem : ∀ {l : List Oper} {i : Nat} {o : Oper}, StepsX P w0 W l → l[i]? = some o → StepX P w0 W o
  | [], _, _, _, h => by simp at h
  | o :: l, 0, o', hs, h => by simp at h; subst h; exact hs.1
  | o :: l, i + 1, o', hs, h => by simp at h; exact stepsX_mem hs.2 h

/-- the last one waits for all: straight, or by way of one more -/
def lastB (l : List Oper) (st : Oper) : Bool :=
  (st.guard.isNone && st.after.toList.all fun e => decide (e.on < l.length) || !Region.binds .any e) && (List.range l.length).all fun j =>
    (st.after.toList.any fun e => e.on == j && Region.binds .any e) ||
    (st.after.toList.any fun e => Region.binds .any e && match l[e.on]? with
      | some o => o.after.toList.any fun e' => e'.on == j && Region.binds .any e'
      | none => false)

structure InvX (w0 : World) (W : Nat → Value → World → Prop) (l : List Oper) (st : Oper) (a0 : Act) (listed : Array Bool) (a : Act) (w' : World) : Prop where
  world : Ext w0 w'
  defers : a.defers = a0.defers
  size : a.tmps.size = a0.tmps.size
  lsize : listed.size = l.length + 1
  last : listed.getD l.length true = false
  done : ∀ (i : Nat) (o : Oper) (d : Nat), l[i]? = some o → o.dst = some d → listed.getD i false = true → W d (a.eval (.tmp d)) w'
  same : ∀ n, (∀ (i : Nat) (o : Oper), l[i]? = some o → o.dst ≠ some n) → a.tmps[n]? = a0.tmps[n]?
  shut : ∀ (i : Nat) (o : Oper), l[i]? = some o → listed.getD i false = true → ∀ e ∈ o.after, Region.binds .any e = true → listed.getD e.on false = true

theorem getD_true_of {l : Array Bool} {i : Nat} (hi : i < l.size) : l.getD i true = l.getD i false := by
  simp [Array.getD_eq_getD_getElem?, Array.getElem?_eq_getElem hi]

theorem ready_stepX {l : List Oper} {st : Oper} {a0 : Act} (S : Shape a0.tmps.size l.toArray) (huniq : ∀ (i j : Nat) (oi oj : Oper) (d : Nat), l.toArray[i]? = some oi → l.toArray[j]? = some oj → oi.dst = some d → oj.dst = some d → i = j)
    (hmono : ∀ t v w1 w2, Ext w1 w2 → W t v w1 → W t v w2)
    (hin : ∀ t, (∀ (i : Nat) (o : Oper), l[i]? = some o → o.dst ≠ some t) → W t (a0.eval (.tmp t)) w0)
    {Q : Exit → Act → World → Prop} {listed : Array Bool} {a : Act} {w' : World} (hI : InvX w0 W l st a0 listed a w') {i : Nat} {o : Oper} (hi : i < l.length) (ho : l[i]? = some o) (hl : listed.getD i true = false)
    (hall : ∀ e ∈ o.after, Region.binds .any e = true → listed.getD e.on false = true) (hs : StepX P w0 W o) {K : Act → World → Prop}
    (hK : ∀ a' w'', InvX w0 W l st a0 (listed.setIfInBounds i true) a' w'' → K a' w'') : wpOp P (l ++ [st]).toArray Q i K a w' := by
  have ho' : l.toArray[i]? = some o := by simpa using ho
  have hoo : (l ++ [st]).toArray[i]? = some o := by simp [List.getElem?_append_left hi, ho]
  unfold wpOp
  simp only [hoo]
  have hg := S.guard i o ho'
  have hw : Region.wanted o (yielded (l ++ [st]).toArray a.tmps) = true := by unfold Region.wanted; rw [hg]
  rw [if_pos hw]
  left
  refine hs a w' hI.world (fun t ht => ?_) K Q ?_
  · by_cases hwr : ∃ (j : Nat) (oj : Oper), l.toArray[j]? = some oj ∧ oj.dst = some t
    · obtain ⟨j, oj, hj, hd⟩ := hwr
      obtain ⟨e, he, heq, hb⟩ := S.waits i o ho' t ht j oj hj hd
      have := hall e he hb
      rw [heq] at this
      exact hI.done j oj t (by simpa using hj) hd this
    · have hno : ∀ (j : Nat) (oj : Oper), l[j]? = some oj → oj.dst ≠ some t := fun j oj hj hd => hwr ⟨j, oj, by simpa using hj, hd⟩
      have e1 := hI.same t hno
      have e2 : a.eval (.tmp t) = a0.eval (.tmp t) := by
        simp only [Act.eval, Array.getD_eq_getD_getElem?, e1]
      rw [e2]; exact hmono t _ w0 w' hI.world (hin t hno)
  · intro v w'' hx hv
    obtain ⟨d, hd, hdlt⟩ := S.dst i o ho'
    have hsz : d < a.tmps.size := by rw [hI.size]; exact hdlt
    have hput : a.put o.dst v = { a with tmps := a.tmps.setIfInBounds d v } := by rw [hd]; rfl
    apply hK
    rw [hput]
    have hne : i ≠ l.length := by omega
    refine ⟨hI.world.trans hx, hI.defers, by simpa using hI.size, by simpa using hI.lsize, by rw [getD_set_ne listed i _ true hne]; exact hI.last, ?_, ?_, ?_⟩
    · intro j oj dj hj hdj hlj
      by_cases e : j = i
      · subst e
        rw [ho] at hj; cases hj
        rw [hd] at hdj; cases hdj
        have : (Act.eval { a with tmps := a.tmps.setIfInBounds d v } (.tmp d)) = v := by
          simp [Act.eval, Array.getD_eq_getD_getElem?, Array.getElem?_setIfInBounds_self_of_lt hsz]
        rw [this]; exact hv d hd
      · rw [getD_set_ne listed i j false (fun h => e h.symm)] at hlj
        have hne : d ≠ dj := fun h => e (huniq j i oj o dj (by simpa using hj) ho' hdj (by rw [hd, h]))
        have : (Act.eval { a with tmps := a.tmps.setIfInBounds d v } (.tmp dj)) = a.eval (.tmp dj) := by
          simp [Act.eval, Array.getD_eq_getD_getElem?, Array.getElem?_setIfInBounds_ne hne]
        rw [this]; exact hmono _ _ _ _ hx (hI.done j oj dj hj hdj hlj)
    · intro n hn
      have hne : d ≠ n := fun h => hn i o ho (by rw [hd, h])
      simp only [Array.getElem?_setIfInBounds_ne hne]
      exact hI.same n hn
    · intro j oj hj hlj e he hb
      by_cases ej : j = i
      · subst ej
        rw [ho] at hj; cases hj
        have := hall e he hb
        by_cases ee : j = e.on
        · rw [← ee]; exact getD_set_same listed j hl false
        · rw [getD_set_ne listed j e.on false ee]; exact this
      · rw [getD_set_ne listed i j false (fun h => ej h.symm)] at hlj
        have := hI.shut j oj hj hlj e he hb
        by_cases ee : i = e.on
        · rw [← ee]; exact getD_set_same listed i hl false
        · rw [getD_set_ne listed i e.on false ee]; exact this

theorem any_of_invX {l : List Oper} {st : Oper} {a0 : Act} (S : Shape a0.tmps.size l.toArray) (hlast : lastB l st = true) (huniq : ∀ (i j : Nat) (oi oj : Oper) (d : Nat), l.toArray[i]? = some oi → l.toArray[j]? = some oj → oi.dst = some d → oj.dst = some d → i = j)
    (hmono : ∀ t v w1 w2, Ext w1 w2 → W t v w1 → W t v w2)
    (hin : ∀ t, (∀ (i : Nat) (o : Oper), l[i]? = some o → o.dst ≠ some t) → W t (a0.eval (.tmp t)) w0) (hs : StepsX P w0 W l)
    {Q : Exit → Act → World → Prop} (hQ : ∀ listed a w', InvX w0 W l st a0 listed a w' → (∀ i, i < l.length → listed.getD i false = true) → st.wp P a w' (fun a' w'' => Q .normal a' w'') Q) :
    ∀ (fuel : Nat) (listed : Array Bool) (a : Act) (w' : World), InvX w0 W l st a0 listed a w' → cnt (l.length + 1) listed ≤ fuel → wpAny P .any (l ++ [st]).toArray Q fuel listed a w' := by
  have hg : st.guard = none := by
    unfold lastB at hlast
    rw [Bool.and_eq_true, Bool.and_eq_true] at hlast
    cases hg : st.guard with
    | none => rfl
    | some x => rw [hg] at hlast; cases hlast.1.1
  have hback : ∀ e ∈ st.after, Region.binds .any e = true → e.on < l.length := by
    intro e he hb
    unfold lastB at hlast
    rw [Bool.and_eq_true, Bool.and_eq_true, List.all_eq_true] at hlast
    have := hlast.1.2 e (by simpa using he)
    rw [hb, Bool.not_true, Bool.or_false, decide_eq_true_eq] at this
    exact this
  have cover : ∀ listed a w', InvX w0 W l st a0 listed a w' → (∀ e ∈ st.after, Region.binds .any e = true → listed.getD e.on false = true) → ∀ j, j < l.length → listed.getD j false = true := by
    intro listed a w' hI hall j hj
    unfold lastB at hlast
    rw [Bool.and_eq_true, List.all_eq_true] at hlast
    have := hlast.2 j (List.mem_range.2 hj)
    rw [Bool.or_eq_true, List.any_eq_true, List.any_eq_true] at this
    rcases this with ⟨e, he, h⟩ | ⟨e, he, h⟩
    · rw [Bool.and_eq_true, beq_iff_eq] at h
      rw [← h.1]; exact hall e (by simpa using he) h.2
    · rw [Bool.and_eq_true] at h
      cases ho : l[e.on]? with
      | none => rw [ho] at h; cases h.2
      | some o =>
        rw [ho] at h
        obtain ⟨hb, h2⟩ := h
        simp only [List.any_eq_true, Bool.and_eq_true, beq_iff_eq] at h2
        obtain ⟨e', he', e1, e2⟩ := h2
        rw [← e1]
        exact hI.shut e.on o ho (hall e (by simpa using he) hb) e' (by simpa using he') e2
  have some_ready : ∀ listed a w', InvX w0 W l st a0 listed a w' → Region.ready .any (l ++ [st]).toArray listed ≠ [] := by
    intro listed a w' hI hr
    -- the least that has not come up is ready
    have key : ∀ i, i < l.length → listed.getD i true = true := by
      intro i
      induction i using Nat.strongRecOn with
      | ind i ih =>
        intro hi
        cases hb : listed.getD i true with
        | true => rfl
        | false =>
          exfalso
          have hmem : i ∈ Region.ready .any (l ++ [st]).toArray listed := mem_ready.2 ⟨hb, l[i], by simp [List.getElem?_append_left hi], fun e he hbe => by
            have hlt := S.back i l[i] (by simp) e he hbe
            have := ih e.on hlt (by omega)
            rw [← getD_true_of (by rw [hI.lsize]; omega)]; exact this⟩
          rw [hr] at hmem; cases hmem
    have hst : l.length ∈ Region.ready .any (l ++ [st]).toArray listed := by
      refine mem_ready.2 ⟨hI.last, st, by simp, fun e he hb => ?_⟩
      have hel := hback e he hb
      rw [← getD_true_of (by rw [hI.lsize]; omega)]; exact key e.on hel
    rw [hr] at hst; cases hst
  intro fuel
  induction fuel with
  | zero =>
    intro listed a w' hI hc
    exfalso
    have := cnt_zero listed (l.length + 1) (by omega) l.length (by omega)
    rw [hI.last] at this; cases this
  | succ fuel ih =>
    intro listed a w' hI hc
    refine ⟨fun h => absurd h (some_ready listed a w' hI), fun i hi => ?_⟩
    obtain ⟨hb, o, ho, hall⟩ := mem_ready.1 hi
    by_cases hlt : i < l.length
    · have ho' : l[i]? = some o := by simpa [List.getElem?_append_left hlt] using ho
      refine ready_stepX S huniq hmono hin hI hlt ho' hb hall (stepsX_mem hs ho') ?_
      intro a' w'' hI'
      refine ih _ a' w'' hI' ?_
      have := cnt_set_lt listed i hb (l.length + 1) (by omega)
      omega
    · have hi' : i < l.length + 1 := by
        rcases Nat.lt_or_ge i (l ++ [st]).toArray.size with h | h
        · simpa using h
        · rw [Array.getElem?_eq_none h] at ho; cases ho
      obtain rfl : i = l.length := by omega
      obtain rfl : o = st := by simp at ho; exact ho.symm
      have hcov := cover listed a w' hI hall
      unfold wpOp
      simp only [ho]
      have hw : Region.wanted o (yielded (l ++ [o]).toArray a.tmps) = true := by unfold Region.wanted; rw [hg]
      rw [if_pos hw]
      left
      refine Oper.wp_mono (fun a' w'' h => ?_) (hQ listed a w' hI hcov)
      have hr : Region.ready .any (l ++ [o]).toArray (listed.setIfInBounds l.length true) = [] := by
        cases hr : Region.ready .any (l ++ [o]).toArray (listed.setIfInBounds l.length true) with
        | nil => rfl
        | cons j js =>
          exfalso
          have hm : j ∈ Region.ready .any (l ++ [o]).toArray (listed.setIfInBounds l.length true) := by rw [hr]; exact List.mem_cons_self ..
          obtain ⟨hbj, oj, hoj, _⟩ := mem_ready.1 hm
          have hj' : j < l.length + 1 := by
            rcases Nat.lt_or_ge j (l ++ [o]).toArray.size with h | h
            · simpa using h
            · rw [Array.getElem?_eq_none h] at hoj; cases hoj
          by_cases hjl : j = l.length
          · subst hjl
            rw [getD_set_same listed _ hI.last true] at hbj; cases hbj
          · rw [getD_set_ne listed _ j true (fun h => hjl h.symm), getD_true_of (by rw [hI.lsize]; omega), hcov j (by omega)] at hbj
            cases hbj
      cases fuel with
      | zero => exact ⟨hr, h⟩
      | succ f => exact ⟨fun _ => h, fun j hj => by rw [hr] at hj; cases hj⟩

/-! ### by tables -/
abbrev Tbl := List (Nat × (Value → World → Prop))
def lookX (n : Nat) : Tbl → Option (Value → World → Prop)
  | [] => none
  | p :: l => cond (Nat.beq p.1 n) (some p.2) (lookX n l)
def mkWX (out inp : Tbl) (n : Nat) : Value → World → Prop :=
  match lookX n out with
  | some p => p
  | none => match lookX n inp with
    | some p => p
    | none => fun _ _ => True

theorem lookX_none {n : Nat} : ∀ {l : Tbl}, (∀ p ∈ l, p.1 ≠ n) → lookX n l = none
  | [], _ => rfl
  | p :: l, h => by
    unfold lookX
    have h1 : Nat.beq p.1 n = false := by
      cases hb : Nat.beq p.1 n with
      | false => rfl
      | true => exact absurd (Nat.eq_of_beq_eq_true hb) (h p (List.mem_cons_self ..))
    rw [h1]
    exact lookX_none (fun q hq => h q (List.mem_cons_of_mem _ hq))
theorem lookX_mem {n : Nat} {q : Value → World → Prop} : ∀ {l : Tbl}, lookX n l = some q → (n, q) ∈ l
  | [], h => by cases h
  | p :: l, h => by
    unfold lookX at h
    cases hb : Nat.beq p.1 n with
    | true =>
      rw [hb] at h
      have e := Nat.eq_of_beq_eq_true hb
      cases h
      rw [← e]; exact List.mem_cons_self ..
    | false => rw [hb] at h; exact List.mem_cons_of_mem _ (lookX_mem h)
theorem lookX_of_mem : ∀ {out : Tbl}, nodupB (out.map (·.1)) = true → ∀ p ∈ out, lookX p.1 out = some p.2
  | [], _, p, hp => by cases hp
  | q :: out, h, p, hp => by
    simp only [List.map_cons, nodupB, Bool.and_eq_true, List.all_eq_true] at h
    unfold lookX
    rcases List.mem_cons.1 hp with rfl | hp'
    · have : Nat.beq p.1 p.1 = true := Nat.beq_refl _
      rw [this]; rfl
    · have h1 := h.1 p.1 (List.mem_map.2 ⟨p, hp', rfl⟩)
      have h2 : Nat.beq q.1 p.1 = false := by simpa using h1
      rw [h2]
      exact lookX_of_mem h.2 p hp'

/-- a predicate that new memory and draws leave alone -/
def MonoP (p : Value → World → Prop) : Prop := ∀ v w1 w2, Ext w1 w2 → p v w1 → p v w2
def AllMono : Tbl → Prop
  | [] => True
  | p :: l => MonoP p.2 ∧ AllMono l
theorem allMono_mem : ∀ {l : Tbl}, AllMono l → ∀ p ∈ l, MonoP p.2
  | [], _, p, hp => by cases hp
  | q :: l, h, p, hp => by
    rcases List.mem_cons.1 hp with rfl | hp'
    · exact h.1
    · exact allMono_mem h.2 p hp'
theorem mono_mkWX {out inp : Tbl} (h1 : AllMono out) (h2 : AllMono inp) : ∀ t v w1 w2, Ext w1 w2 → mkWX out inp t v w1 → mkWX out inp t v w2 := by
  intro t v w1 w2 hx h
  unfold mkWX at *
  cases ho : lookX t out with
  | some p => rw [ho] at h; exact allMono_mem h1 _ (lookX_mem ho) v w1 w2 hx h
  | none =>
    rw [ho] at h
    cases hi : lookX t inp with
    | some p => simp only [hi] at h ⊢; exact allMono_mem h2 _ (lookX_mem hi) v w1 w2 hx h
    | none => simp only

def ForOutX : Tbl → Act → World → (Act → Prop) → Prop
  | [], a, _, Q => Q a
  | p :: l, a, w, Q => ∀ v, p.2 v w → ForOutX l (a.put (some p.1) v) w Q

def ExX (u : Value) : Value → World → Prop := fun v _ => v = u
theorem mono_ex (u : Value) : MonoP (ExX u) := fun _ _ _ _ h => h
theorem forOutX_nil (a : Act) (w : World) (Q : Act → Prop) : ForOutX [] a w Q = Q a := rfl
theorem forOutX_ex (d : Nat) (u : Value) (l : Tbl) (a : Act) (w : World) (Q : Act → Prop) : ForOutX ((d, ExX u) :: l) a w Q = ForOutX l (a.put (some d) u) w Q :=
  propext ⟨fun h => h u rfl, fun h v hv => by cases hv; exact h⟩

theorem forOutX_putF (f : Nat → Value) {w : World} {Q : Act → Prop} : ∀ (l : List Oper) (out : Tbl) (a : Act), l.map (·.dst) = out.map (fun p => some p.1) → (∀ p ∈ out, p.2 (f p.1) w) → ForOutX out a w Q → Q (putF f l a)
  | [], [], _, _, _, h => h
  | [], _ :: _, _, e, _, _ => by cases e
  | _ :: _, [], _, e, _, _ => by cases e
  | o :: l, p :: out, a, e, hW, h => by
    simp only [List.map_cons, List.cons.injEq] at e
    unfold putF
    rw [e.1]
    exact forOutX_putF f l out _ e.2 (fun q hq => hW q (List.mem_cons_of_mem _ hq)) (h (f p.1) (hW p (List.mem_cons_self ..)))

/-- THE LAW, BY TABLES. -/
theorem wp_region_tblX {id : Nat} {Q : Exit → Act → World → Prop} {a0 : Act} {l : List Oper} {st : Oper} (out inp : Tbl) (size : Nat) (hsz : a0.tmps.size = size)
    (hm : P.follows .mixedOrders = true) (hB : shapeB size l.toArray = true) (hL : lastB l st = true) (hU : uniqB l = true) (hk : l.map (·.dst) = out.map (fun p => some p.1)) (hn : nodupB (out.map (·.1)) = true)
    (hm1 : AllMono out) (hm2 : AllMono inp) (hin : ∀ p ∈ inp, p.2 (a0.eval (.tmp p.1)) w0)
    (hs : StepsX P w0 (mkWX out inp) l) (h : ∀ w', Ext w0 w' → ForOutX out a0 w' fun a => st.wp P a w' (fun a' w'' => Q .normal a' w'') Q) : (Code.region id (l ++ [st]).toArray true).wp P Q a0 w0 := by
  subst hsz
  have S := shape_of hB
  have hex : Ext w0 { w0 with drawn := w0.drawn + 1 } := Ext.drewN w0 1
  refine wp_region_any hm ?_
  refine any_of_invX (w0 := w0) (W := mkWX out inp) S hL (uniq_of hU) (mono_mkWX hm1 hm2) (fun t ht => ?_) hs ?_ _ _ _ _ ?_ ?_
  · have h0 : lookX t out = none := lookX_none (fun p hp e => by
      have : (some p.1 : Option Nat) ∈ l.map (·.dst) := by rw [hk]; exact List.mem_map.2 ⟨p, hp, rfl⟩
      obtain ⟨o, ho, hd⟩ := List.mem_map.1 this
      obtain ⟨i, hi, e'⟩ := List.getElem_of_mem ho
      exact ht i o (by simp [hi, e']) (by rw [hd, e]))
    unfold mkWX
    rw [h0]
    cases hi : lookX t inp with
    | none => exact trivial
    | some q => exact hin _ (lookX_mem hi)
  · intro listed a w' hI hall
    have hp := forOutX_putF (fun d => a.eval (.tmp d)) l out a0 hk (fun p hp => by
      have : (some p.1 : Option Nat) ∈ l.map (·.dst) := by rw [hk]; exact List.mem_map.2 ⟨p, hp, rfl⟩
      obtain ⟨o, ho, hd⟩ := List.mem_map.1 this
      obtain ⟨i, hi, e'⟩ := List.getElem_of_mem ho
      have := hI.done i o p.1 (by simp [hi, e']) hd (hall i hi)
      unfold mkWX at this
      rw [lookX_of_mem hn p hp] at this
      exact this) (h w' hI.world)
    have e : putF (fun d => a.eval (.tmp d)) l a0 = a := by
      obtain ⟨h1, h2, h3⟩ := putF_spec (fun d => a.eval (.tmp d)) l a0
      have ht : (putF (fun d => a.eval (.tmp d)) l a0).tmps = a.tmps := by
        apply Array.ext_getElem?
        intro k
        rw [h3 k]
        by_cases hk : k < a0.tmps.size
        · by_cases hw : ∃ o ∈ l, o.dst = some k
          · rw [if_pos ⟨hw, hk⟩]
            have : k < a.tmps.size := by rw [hI.size]; exact hk
            simp [Act.eval, Array.getD_eq_getD_getElem?, Array.getElem?_eq_getElem this]
          · rw [if_neg (fun h => hw h.1)]
            refine (hI.same k ?_).symm
            intro i o ho hd
            exact hw ⟨o, List.mem_of_getElem? ho, hd⟩
        · rw [if_neg (fun h => hk h.2), Array.getElem?_eq_none (by omega), Array.getElem?_eq_none (by rw [hI.size]; omega)]
      cases a with
      | mk t d =>
        have hd : (putF (fun d' => Act.eval ⟨t, d⟩ (.tmp d')) l a0).defers = d := by rw [h1]; exact hI.defers.symm
        revert ht hd
        generalize putF (fun d' => Act.eval ⟨t, d⟩ (.tmp d')) l a0 = b
        intro ht hd
        cases b; simp at ht hd; rw [ht, hd]
    rw [e] at hp
    exact hp
  · refine ⟨hex, rfl, rfl, by simp, ?_, ?_, fun _ _ => rfl, ?_⟩
    · simp [Array.getD_eq_getD_getElem?]
    · intro i o d ho hd hl
      exfalso
      simp [Array.getD_eq_getD_getElem?, Array.getElem?_replicate] at hl
      split at hl <;> simp at hl
    · intro i o ho hl
      exfalso
      simp [Array.getD_eq_getD_getElem?, Array.getElem?_replicate] at hl
      split at hl <;> simp at hl
  · have := cnt_le (Array.replicate (l ++ [st]).toArray.size false) (l.length + 1)
    simpa using this

/-- the same over a region that is written out -/
theorem wp_region_litX {id : Nat} {Q : Exit → Act → World → Prop} {a0 : Act} {ops : List Oper} {st : Oper} (out inp : Tbl) (size : Nat) (hops : ops.dropLast ++ [st] = ops) (hsz : a0.tmps.size = size)
    (hm : P.follows .mixedOrders = true) (hB : shapeB size ops.dropLast.toArray = true) (hL : lastB ops.dropLast st = true) (hU : uniqB ops.dropLast = true) (hk : ops.dropLast.map (·.dst) = out.map (fun p => some p.1)) (hn : nodupB (out.map (·.1)) = true)
    (hm1 : AllMono out) (hm2 : AllMono inp) (hin : ∀ p ∈ inp, p.2 (a0.eval (.tmp p.1)) w0)
    (hs : StepsX P w0 (mkWX out inp) ops.dropLast) (h : ∀ w', Ext w0 w' → ForOutX out a0 w' fun a => st.wp P a w' (fun a' w'' => Q .normal a' w'') Q) : (Code.region id ops.toArray true).wp P Q a0 w0 := by
  have := wp_region_tblX (id := id) (Q := Q) out inp size hsz hm hB hL hU hk hn hm1 hm2 hin hs h
  rwa [hops] at this

/-! ### the steps -/
/-- an operation that yields one value in the world that it got -/
theorem sx_val {o : Oper} {u : World → Act → Value} (h : ∀ a w', Ext w0 w' → (∀ t, Operand.tmp t ∈ o.op.operands.toList → W t (a.eval (.tmp t)) w') → (execOp a.eval o).run P w' = .ok (.value (u w' a)) w' ∧ ∀ d, o.dst = some d → W d (u w' a) w') : StepX P w0 W o := by
  intro a w' hx ho K Q hK
  obtain ⟨h1, h2⟩ := h a w' hx ho
  unfold Oper.wp
  rw [h1, Oper.upon_value]
  exact hK _ _ (Ext.refl _) h2
/-- a call, by its contract -/
theorem sx_call {o : Oper} {f : FuncId} (h : ∀ (a : Act) (w' : World), Ext w0 w' → (∀ t, Operand.tmp t ∈ o.op.operands.toList → W t (a.eval (.tmp t)) w') →
    ∃ args, (execOp a.eval o).run P w' = .ok (.enter f args) w' ∧ Calls P f args w' (fun e w'' => ∃ v, e = .returned v ∧ Ext w' w'' ∧ ∀ d, o.dst = some d → W d v w'')) : StepX P w0 W o := by
  intro a w' hx ho K Q hK
  obtain ⟨args, h1, h2⟩ := h a w' hx ho
  unfold Oper.wp
  rw [h1, Oper.upon_enter]
  exact h2.mono (fun e w'' ⟨v, he, hxx, hw⟩ => by subst he; exact hK v w'' hxx hw)
section
variable {d x y ty ty' ty'' : Nat} {pos : String} {af : Array Edge}
theorem sx_move (h : ∀ v w, W x v w → W d v w) : StepX P w0 W ⟨some d, .move (.tmp x), ty, pos, af, none⟩ :=
  sx_val (u := fun _ a => a.eval (.tmp x)) fun a w' _ ho => ⟨rfl, fun d' hd => by cases hd; exact h _ _ (ho x (by simp [Op.operands]))⟩
theorem sx_field {k : Nat} {u v : Value} (h : ∀ z w, W x z w → z = u) (hr : ∀ w, (Instr.fieldAt ty' u k).run P w = .ok v w) (hd : ∀ w, W d v w) : StepX P w0 W ⟨some d, .fieldAddr ty' (.tmp x) k, ty, pos, af, none⟩ :=
  sx_val (u := fun _ _ => v) fun a w' _ ho => by
    have e := h _ _ (ho x (by simp [Op.operands]))
    exact ⟨by simp only [execOp, e, Sem.run_bind, hr]; rfl, fun d' h' => by cases h'; exact hd _⟩
theorem sx_index {u u' v : Value} (h : ∀ z w, W x z w → z = u) (h' : ∀ z w, W y z w → z = u') (hr : ∀ w, (Instr.indexAt ty' u u').run P w = .ok v w) (hd : ∀ w, W d v w) : StepX P w0 W ⟨some d, .indexAddr ty' (.tmp x) (.tmp y), ty, pos, af, none⟩ :=
  sx_val (u := fun _ _ => v) fun a w' _ ho => by
    have e := h _ _ (ho x (by simp [Op.operands]))
    have e' := h' _ _ (ho y (by simp [Op.operands]))
    exact ⟨by simp only [execOp, e, e', Sem.run_bind, hr]; rfl, fun d' h' => by cases h'; exact hd _⟩
theorem sx_index_const {u c v : Value} (h : ∀ z w, W x z w → z = u) (hr : ∀ w, (Instr.indexAt ty' u c).run P w = .ok v w) (hd : ∀ w, W d v w) : StepX P w0 W ⟨some d, .indexAddr ty' (.tmp x) (.const c), ty, pos, af, none⟩ :=
  sx_val (u := fun _ _ => v) fun a w' _ ho => by
    have e := h _ _ (ho x (by simp [Op.operands]))
    have e' : a.eval (.const c) = c := rfl
    exact ⟨by simp only [execOp, e, e', Sem.run_bind, hr]; rfl, fun d' h' => by cases h'; exact hd _⟩
theorem sx_load {u v : Value} (h : ∀ z w, W x z w → z = u) (hr : ∀ w', Ext w0 w' → (Instr.loadAt ty' u).run P w' = .ok v w') (hd : ∀ w, W d v w) : StepX P w0 W ⟨some d, .load ty' (.tmp x), ty, pos, af, none⟩ :=
  sx_val (u := fun _ _ => v) fun a w' hx ho => by
    have e := h _ _ (ho x (by simp [Op.operands]))
    exact ⟨by simp only [execOp, e, Sem.run_bind, hr w' hx]; rfl, fun d' h' => by cases h'; exact hd _⟩
end
end
end Go.Proofs.Qxb6601308a.Rg
