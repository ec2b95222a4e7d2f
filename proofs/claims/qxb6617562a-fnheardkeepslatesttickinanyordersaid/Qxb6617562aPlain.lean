/-
  Seat b6617562a. Plain facts: tables from names (lists of bytes) to ticks; what one telling does; that the order of the tellings makes no odds. No Go in sight.
-/
namespace Go.Proofs.Qxb6617562a

/-- The table with x at k. -/
def upd (M : List UInt8 → Option Int) (k : List UInt8) (x : Int) : List UInt8 → Option Int := fun j => if j = k then some x else M j
/-- The later of what was there and t. -/
def topOf : Option Int → Int → Int
  | none, t => t
  | some x, t => if x < t then t else x
/-- One telling: of a name that counts the later tick is kept. -/
def hear (el : List UInt8 → Bool) (M : List UInt8 → Option Int) (k : List UInt8) (t : Int) : List UInt8 → Option Int := fun j => if j = k ∧ el k = true then some (topOf (M k) t) else M j

theorem hear_no {el : List UInt8 → Bool} (M : List UInt8 → Option Int) (k : List UInt8) (t : Int) (h : el k = false) : hear el M k t = M := by
  funext j
  simp [hear, h]
theorem hear_new {el : List UInt8 → Bool} (M : List UInt8 → Option Int) (k : List UInt8) (t : Int) (h : el k = true) (hm : M k = none) : hear el M k t = upd M k t := by
  funext j
  simp [hear, upd, h, hm, topOf]
theorem hear_later {el : List UInt8 → Bool} (M : List UInt8 → Option Int) (k : List UInt8) (t x : Int) (h : el k = true) (hm : M k = some x) (hx : x < t) : hear el M k t = upd M k t := by
  funext j
  simp [hear, upd, h, hm, topOf, hx]
theorem hear_older {el : List UInt8 → Bool} (M : List UInt8 → Option Int) (k : List UInt8) (t x : Int) (h : el k = true) (hm : M k = some x) (hx : ¬ x < t) : hear el M k t = M := by
  funext j
  by_cases e : j = k
  · subst e
    simp [hear, h, hm, topOf, hx]
  · simp [hear, e]

/-- WHAT A TABLE HOLDS BEHIND SOME TELLINGS (those whose number is in I), out of the table M0: a name that does not count holds what it held; one that counts the latest of what it held and of every tick told of it. -/
def Top (M0 : List UInt8 → Option Int) (el : List UInt8 → Bool) (K : Nat → List UInt8) (T : Nat → Int) (I : Nat → Prop) (M : List UInt8 → Option Int) : Prop :=
  ∀ j, (el j = false → M j = M0 j) ∧ (el j = true →
    (M j = none → M0 j = none ∧ ∀ i, I i → K i ≠ j) ∧
    ∀ x, M j = some x → (M0 j = some x ∨ ∃ i, I i ∧ K i = j ∧ T i = x) ∧ (∀ y, M0 j = some y → y ≤ x) ∧ ∀ i, I i → K i = j → T i ≤ x)

theorem top_start (M0 : List UInt8 → Option Int) (el : List UInt8 → Bool) (K : Nat → List UInt8) (T : Nat → Int) (I : Nat → Prop) (hI : ∀ i, ¬ I i) : Top M0 el K T I M0 := by
  intro j
  refine ⟨fun _ => rfl, fun _ => ⟨fun h => ⟨h, fun i hi => absurd hi (hI i)⟩, fun x hx => ⟨.inl hx, fun y hy => ?_, fun i hi => absurd hi (hI i)⟩⟩⟩
  rw [hx] at hy
  cases hy
  omega

theorem topOf_le (o : Option Int) (t : Int) : t ≤ topOf o t ∧ (∀ y, o = some y → y ≤ topOf o t) ∧ (topOf o t = t ∨ o = some (topOf o t)) := by
  cases o with
  | none => exact ⟨by simp [topOf], (fun y h => by cases h), .inl rfl⟩
  | some x =>
    by_cases h : x < t
    · simp [topOf, h]; omega
    · simp [topOf, h]; omega

/-- One telling more. -/
theorem top_step {M0 M : List UInt8 → Option Int} {el : List UInt8 → Bool} {K : Nat → List UInt8} {T : Nat → Int} {I I' : Nat → Prop} (h : Top M0 el K T I M) (i : Nat) (hI : ∀ a, I' a ↔ (I a ∨ a = i)) : Top M0 el K T I' (hear el M (K i) (T i)) := by
  intro j
  obtain ⟨h1, h2⟩ := h j
  by_cases e : j = K i ∧ el (K i) = true
  · obtain ⟨e1, e2⟩ := e
    subst e1
    have hj : hear el M (K i) (T i) (K i) = some (topOf (M (K i)) (T i)) := by simp [hear, e2]
    obtain ⟨t1, t2, t3⟩ := topOf_le (M (K i)) (T i)
    obtain ⟨h3, h4⟩ := h2 e2
    refine ⟨(fun hf => by rw [e2] at hf; cases hf), fun _ => ⟨(fun hn => by rw [hj] at hn; cases hn), fun x hx => ?_⟩⟩
    rw [hj] at hx
    cases hx
    refine ⟨?_, fun y hy => ?_, fun a ha hKa => ?_⟩
    · rcases t3 with t3 | t3
      · exact .inr ⟨i, (hI i).2 (.inr rfl), rfl, t3.symm⟩
      · rcases (h4 _ t3).1 with h5 | ⟨a, ha, hb, hc⟩
        · exact .inl h5
        · exact .inr ⟨a, (hI a).2 (.inl ha), hb, hc⟩
    · cases hM : M (K i) with
      | none =>
        have := (h3 hM).1
        rw [this] at hy
        cases hy
      | some z =>
        have a1 := (h4 z hM).2.1 y hy
        have a2 := t2 z hM
        rw [hM] at a2
        omega
    · rcases (hI a).1 ha with ha | ha
      · cases hM : M (K i) with
        | none => exact absurd hKa ((h3 hM).2 a ha)
        | some z =>
          have a1 := (h4 z hM).2.2 a ha hKa
          have a2 := t2 z hM
          rw [hM] at a2
          omega
      · rw [ha]
        exact t1
  · have hj : hear el M (K i) (T i) j = M j := by simp [hear, e]
    rw [hj]
    refine ⟨h1, fun he => ?_⟩
    obtain ⟨h3, h4⟩ := h2 he
    have hne : K i ≠ j := fun hk => e ⟨hk.symm, by rw [hk]; exact he⟩
    refine ⟨fun hn => ⟨(h3 hn).1, fun a ha => ?_⟩, fun x hx => ⟨?_, (h4 x hx).2.1, fun a ha hKa => ?_⟩⟩
    · rcases (hI a).1 ha with ha | ha
      · exact (h3 hn).2 a ha
      · rw [ha]; exact hne
    · rcases (h4 x hx).1 with h5 | ⟨a, ha, hb, hc⟩
      · exact .inl h5
      · exact .inr ⟨a, (hI a).2 (.inl ha), hb, hc⟩
    · rcases (hI a).1 ha with ha | ha
      · exact (h4 x hx).2.2 a ha hKa
      · exact absurd (by rw [← ha]; exact hKa) hne

/-- Two tables behind the same tellings are one, whatever the order. -/
theorem top_unique {M0 M M' : List UInt8 → Option Int} {el : List UInt8 → Bool} {K : Nat → List UInt8} {T : Nat → Int} {I : Nat → Prop} (h : Top M0 el K T I M) (h' : Top M0 el K T I M') : M = M' := by
  funext j
  obtain ⟨h1, h2⟩ := h j
  obtain ⟨h1', h2'⟩ := h' j
  cases he : el j with
  | false => rw [h1 he, h1' he]
  | true =>
    obtain ⟨a1, a2⟩ := h2 he
    obtain ⟨b1, b2⟩ := h2' he
    cases hM : M j with
    | none =>
      cases hM' : M' j with
      | none => rfl
      | some x =>
        exfalso
        obtain ⟨c1, c2⟩ := a1 hM
        rcases (b2 x hM').1 with d | ⟨i, hi, hk, _⟩
        · rw [c1] at d; cases d
        · exact c2 i hi hk
    | some x =>
      cases hM' : M' j with
      | none =>
        exfalso
        obtain ⟨c1, c2⟩ := b1 hM'
        rcases (a2 x hM).1 with d | ⟨i, hi, hk, _⟩
        · rw [c1] at d; cases d
        · exact c2 i hi hk
      | some y =>
        have e1 : x ≤ y := by
          rcases (a2 x hM).1 with d | ⟨i, hi, hk, ht⟩
          · exact (b2 y hM').2.1 x d
          · rw [← ht]; exact (b2 y hM').2.2 i hi hk
        have e2 : y ≤ x := by
          rcases (b2 y hM').1 with d | ⟨i, hi, hk, ht⟩
          · exact (a2 x hM).2.1 y d
          · rw [← ht]; exact (a2 x hM).2.2 i hi hk
        rw [show x = y from by omega]

/-- The table behind the first i tellings, forwards. -/
def fwd (M0 : List UInt8 → Option Int) (el : List UInt8 → Bool) (K : Nat → List UInt8) (T : Nat → Int) : Nat → List UInt8 → Option Int
  | 0 => M0
  | i + 1 => hear el (fwd M0 el K T i) (K i) (T i)
theorem fwd_top (M0 : List UInt8 → Option Int) (el : List UInt8 → Bool) (K : Nat → List UInt8) (T : Nat → Int) (n : Nat) : Top M0 el K T (fun i => i < n) (fwd M0 el K T n) := by
  induction n with
  | zero => exact top_start _ _ _ _ _ (fun i => by omega)
  | succ n ih => exact top_step ih n (fun a => by omega)
/-- The table behind the last r of n tellings, backwards. -/
def bwd (M0 : List UInt8 → Option Int) (el : List UInt8 → Bool) (K : Nat → List UInt8) (T : Nat → Int) (n : Nat) : Nat → List UInt8 → Option Int
  | 0 => M0
  | r + 1 => hear el (bwd M0 el K T n r) (K (n - (r + 1))) (T (n - (r + 1)))
theorem bwd_top (M0 : List UInt8 → Option Int) (el : List UInt8 → Bool) (K : Nat → List UInt8) (T : Nat → Int) (n r : Nat) (hr : r ≤ n) : Top M0 el K T (fun i => n - r ≤ i ∧ i < n) (bwd M0 el K T n r) := by
  induction r with
  | zero => exact top_start _ _ _ _ _ (fun i => by omega)
  | succ r ih => exact top_step (ih (by omega)) (n - (r + 1)) (fun a => by omega)

theorem bwd_fwd (M0 : List UInt8 → Option Int) (el : List UInt8 → Bool) (K : Nat → List UInt8) (T : Nat → Int) (n : Nat) : bwd M0 el K T n n = fwd M0 el K T n := by
  have h := bwd_top M0 el K T n n (Nat.le_refl _)
  have e : (fun i => n - n ≤ i ∧ i < n) = (fun i => i < n) := by
    funext i
    exact propext ⟨fun h => h.2, fun h => ⟨by omega, h⟩⟩
  rw [e] at h
  exact top_unique h (fwd_top M0 el K T n)

/-- The greatest tick told of a name, as the law reckons it: is there one yet, and which. -/
def told (K : Nat → List UInt8) (T : Nat → Int) (k : List UInt8) : Nat → Option Int
  | 0 => none
  | i + 1 => if K i = k then some (topOf (told K T k i) (T i)) else told K T k i
theorem told_spec (K : Nat → List UInt8) (T : Nat → Int) (k : List UInt8) (n : Nat) :
    (told K T k n = none → ∀ i, i < n → K i ≠ k) ∧ ∀ x, told K T k n = some x → (∃ i, i < n ∧ K i = k ∧ T i = x) ∧ ∀ i, i < n → K i = k → T i ≤ x := by
  induction n with
  | zero => exact ⟨fun _ i hi => by omega, fun x hx => by simp [told] at hx⟩
  | succ n ih =>
    obtain ⟨h1, h2⟩ := ih
    by_cases e : K n = k
    · obtain ⟨t1, t2, t3⟩ := topOf_le (told K T k n) (T n)
      have hj : told K T k (n + 1) = some (topOf (told K T k n) (T n)) := by simp [told, e]
      refine ⟨fun hn => (by rw [hj] at hn; cases hn), fun x hx => ?_⟩
      rw [hj] at hx
      cases hx
      refine ⟨?_, fun i hi hk => ?_⟩
      · rcases t3 with t3 | t3
        · exact ⟨n, by omega, e, t3.symm⟩
        · obtain ⟨i, a, b, c⟩ := (h2 _ t3).1
          exact ⟨i, by omega, b, c⟩
      · by_cases ei : i = n
        · rw [ei]; exact t1
        · cases ht : told K T k n with
          | none => exact absurd hk (h1 ht i (by omega))
          | some z =>
            have a1 := (h2 z ht).2 i (by omega) hk
            have a2 := t2 z ht
            rw [ht] at a2
            omega
    · have hj : told K T k (n + 1) = told K T k n := by simp [told, e]
      rw [hj]
      refine ⟨fun hn i hi => ?_, fun x hx => ⟨?_, fun i hi hk => ?_⟩⟩
      · by_cases ei : i = n
        · rw [ei]; exact e
        · exact h1 hn i (by omega)
      · obtain ⟨i, a, b, c⟩ := (h2 x hx).1
        exact ⟨i, by omega, b, c⟩
      · have ei : i ≠ n := fun h => e (by rw [← h]; exact hk)
        exact (h2 x hx).2 i (by omega) hk

/-- The table that the law wants, behind i rounds of n tellings. -/
def want (M0 : List UInt8 → Option Int) (el : List UInt8 → Bool) (K : Nat → List UInt8) (T : Nat → Int) (n : Nat) : Nat → List UInt8 → Option Int
  | 0 => M0
  | i + 1 => if el (K i) = true then upd (want M0 el K T n i) (K i) (topOf (M0 (K i)) ((told K T (K i) n).getD 0)) else want M0 el K T n i

theorem want_at (M0 : List UInt8 → Option Int) (el : List UInt8 → Bool) (K : Nat → List UInt8) (T : Nat → Int) (n i : Nat) (j : List UInt8) :
    ((el j = true ∧ ∃ a, a < i ∧ K a = j) → want M0 el K T n i j = some (topOf (M0 j) ((told K T j n).getD 0))) ∧ (¬ (el j = true ∧ ∃ a, a < i ∧ K a = j) → want M0 el K T n i j = M0 j) := by
  induction i with
  | zero => exact ⟨fun ⟨_, a, ha, _⟩ => by omega, fun _ => rfl⟩
  | succ i ih =>
    obtain ⟨h1, h2⟩ := ih
    by_cases e : el (K i) = true
    · have hw : want M0 el K T n (i + 1) j = if j = K i then some (topOf (M0 (K i)) ((told K T (K i) n).getD 0)) else want M0 el K T n i j := by simp [want, e, upd]
      rw [hw]
      by_cases ej : j = K i
      · subst ej
        rw [if_pos rfl]
        exact ⟨fun _ => rfl, fun h => absurd ⟨e, i, by omega, rfl⟩ h⟩
      · rw [if_neg ej]
        refine ⟨fun ⟨a1, a, ha, hk⟩ => h1 ⟨a1, a, ?_, hk⟩, fun h => h2 (fun ⟨a1, a, ha, hk⟩ => h ⟨a1, a, by omega, hk⟩)⟩
        by_cases ea : a = i
        · exact absurd (by rw [← hk, ea]) ej
        · omega
    · have hw : want M0 el K T n (i + 1) j = want M0 el K T n i j := by simp [want, e]
      rw [hw]
      refine ⟨fun ⟨a1, a, ha, hk⟩ => h1 ⟨a1, a, ?_, hk⟩, fun h => h2 (fun ⟨a1, a, ha, hk⟩ => h ⟨a1, a, by omega, hk⟩)⟩
      by_cases ea : a = i
      · exact absurd (by rw [← ea, hk]; exact a1) e
      · omega

theorem want_fwd (M0 : List UInt8 → Option Int) (el : List UInt8 → Bool) (K : Nat → List UInt8) (T : Nat → Int) (n : Nat) : want M0 el K T n n = fwd M0 el K T n := by
  refine top_unique (I := fun i => i < n) (fun j => ?_) (fwd_top M0 el K T n)
  obtain ⟨h1, h2⟩ := want_at M0 el K T n n j
  obtain ⟨s1, s2⟩ := told_spec K T j n
  refine ⟨fun hf => h2 (fun ⟨a, _⟩ => (by rw [hf] at a; cases a)), fun he => ?_⟩
  by_cases ha : ∃ a, a < n ∧ K a = j
  · have hw := h1 ⟨he, ha⟩
    obtain ⟨a, ha, hk⟩ := ha
    cases ht : told K T j n with
    | none => exact absurd hk (s1 ht a ha)
    | some z =>
      rw [ht] at hw
      obtain ⟨t1, t2, t3⟩ := topOf_le (M0 j) z
      have hw' : want M0 el K T n n j = some (topOf (M0 j) z) := hw
      rw [hw']
      refine ⟨fun h => (by cases h), fun x hx => ?_⟩
      cases hx
      refine ⟨?_, t2, fun i hi hki => ?_⟩
      · rcases t3 with t3 | t3
        · obtain ⟨i, a1, a2, a3⟩ := (s2 z ht).1
          exact .inr ⟨i, a1, a2, by rw [t3]; exact a3⟩
        · exact .inl t3
      · have := (s2 z ht).2 i hi hki
        omega
  · have hw := h2 (fun ⟨_, h⟩ => ha h)
    rw [hw]
    refine ⟨fun h => ⟨h, fun i hi hk => ha ⟨i, hi, hk⟩⟩, fun x hx => ⟨.inl hx, fun y hy => ?_, fun i hi hk => absurd ⟨i, hi, hk⟩ ha⟩⟩
    rw [hx] at hy
    cases hy
    omega

/-- The table of the first m pairs. -/
def seen (K : Nat → List UInt8) (T : Nat → Int) : Nat → List UInt8 → Option Int
  | 0 => fun _ => none
  | i + 1 => upd (seen K T i) (K i) (T i)
theorem seen_has (K : Nat → List UInt8) (T : Nat → Int) (m i : Nat) (h : i < m) : ∃ x, seen K T m (K i) = some x := by
  induction m with
  | zero => omega
  | succ m ih =>
    by_cases e : K i = K m
    · exact ⟨T m, by simp [seen, upd, e]⟩
    · have him : i < m := by
        by_cases ei : i = m
        · exact absurd (by rw [ei]) e
        · omega
      obtain ⟨x, hx⟩ := ih him
      exact ⟨x, by simp [seen, upd, e, hx]⟩
/-- What was there is there behind all tellings. -/
theorem fwd_has {M0 : List UInt8 → Option Int} {el : List UInt8 → Bool} {K : Nat → List UInt8} {T : Nat → Int} {j : List UInt8} {x : Int} (h : M0 j = some x) (n : Nat) : ∃ y, fwd M0 el K T n j = some y := by
  obtain ⟨h1, h2⟩ := fwd_top M0 el K T n j
  cases he : el j with
  | false => exact ⟨x, by rw [h1 he, h]⟩
  | true =>
    cases hf : fwd M0 el K T n j with
    | some y => exact ⟨y, rfl⟩
    | none =>
      have := ((h2 he).1 hf).1
      rw [h] at this
      cases this

end Go.Proofs.Qxb6617562a
