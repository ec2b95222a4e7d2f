/-
  Seat b6617535a. Plain facts: a row of 64-bit words read bit by bit; what one push does to it, and what many do. No Go in sight.
-/
import Derived.Laws.BitsAllLaws
namespace Go.Proofs.Qxb6617535a

/-- Bit k of a word. -/
def bitW (x : Int) (k : Nat) : Bool := x.toNat.testBit k
/-- Bit p of a row of words (behind its end: none). -/
def bitAt (ws : List Int) (p : Nat) : Bool := bitW (ws.getD (p / 64) 0) (p % 64)
/-- The word with bit k set or struck. -/
def setBit (x : Int) (k : Nat) (b : Bool) : Int := if b then ((x.toNat ||| 2 ^ k : Nat) : Int) else ((x.toNat &&& (18446744073709551615 - 2 ^ k) : Nat) : Int)
/-- The row, one word longer where the wanted word is the next one. -/
def grow (ws : List Int) (q : Nat) : List Int := if q = ws.length then ws ++ [0] else ws
/-- One push at depth d. -/
def pushW (ws : List Int) (d : Nat) (b : Bool) : List Int := (grow ws (d / 64)).set (d / 64) (setBit ((grow ws (d / 64)).getD (d / 64) 0) (d % 64) b)
/-- Each is a 64-bit word. -/
def Words (ws : List Int) : Prop := ∀ x ∈ ws, 0 ≤ x ∧ x < 18446744073709551616

theorem words_getD {ws : List Int} (h : Words ws) (j : Nat) : 0 ≤ ws.getD j 0 ∧ ws.getD j 0 < 18446744073709551616 := by
  by_cases hj : j < ws.length
  · have e : ws.getD j 0 = ws[j] := by simp [List.getD, hj]
    rw [e]
    exact h _ (List.getElem_mem hj)
  · have e : ws.getD j 0 = 0 := by simp [List.getD, Nat.le_of_not_lt hj]
    rw [e]
    omega

theorem pow_lt (k : Nat) (hk : k < 64) : 2 ^ k < 18446744073709551616 := by
  have : (2 : Nat) ^ k < 2 ^ 64 := Nat.pow_lt_pow_right (by omega) hk
  exact this

theorem mask_bit (k j : Nat) (hk : k < 64) (hj : j < 64) : (18446744073709551615 - 2 ^ k).testBit j = !decide (k = j) := by
  have e : 18446744073709551615 - 2 ^ k = 2 ^ 64 - (2 ^ k + 1) := by
    have := pow_lt k hk
    show 18446744073709551615 - 2 ^ k = 18446744073709551616 - (2 ^ k + 1)
    omega
  rw [e, Nat.testBit_two_pow_sub_succ (pow_lt k hk), Nat.testBit_two_pow]
  simp [hj]

theorem setBit_bit (x : Int) (k j : Nat) (b : Bool) (hk : k < 64) (hj : j < 64) : bitW (setBit x k b) j = if j = k then b else bitW x j := by
  cases b
  · simp only [setBit, bitW, Bool.false_eq_true, if_false, Int.toNat_natCast, Nat.testBit_and, mask_bit k j hk hj]
    by_cases e : j = k
    · simp [e]
    · have e' : ¬ k = j := fun h => e h.symm
      simp [e, e']
  · simp only [setBit, bitW, if_true, Int.toNat_natCast, Nat.testBit_or, Nat.testBit_two_pow]
    by_cases e : j = k
    · simp [e]
    · have e' : ¬ k = j := fun h => e h.symm
      simp [e, e']

theorem setBit_word (x : Int) (k : Nat) (b : Bool) (hk : k < 64) (h1 : x < 18446744073709551616) : 0 ≤ setBit x k b ∧ setBit x k b < 18446744073709551616 := by
  have hx : x.toNat < 2 ^ 64 := by show x.toNat < 18446744073709551616; omega
  cases b
  · have : x.toNat &&& (18446744073709551615 - 2 ^ k) < 2 ^ 64 := Nat.lt_of_le_of_lt Nat.and_le_left hx
    have e : (2 : Nat) ^ 64 = 18446744073709551616 := rfl
    simp only [setBit, Bool.false_eq_true, if_false]
    omega
  · have : x.toNat ||| 2 ^ k < 2 ^ 64 := Nat.or_lt_two_pow hx (pow_lt k hk)
    have e : (2 : Nat) ^ 64 = 18446744073709551616 := rfl
    simp only [setBit, if_true]
    omega

theorem grow_getD (ws : List Int) (q j : Nat) : (grow ws q).getD j 0 = ws.getD j 0 := by
  unfold grow
  split
  · by_cases hj : j < ws.length
    · simp [List.getD, List.getElem?_append_left hj]
    · by_cases e : j = ws.length
      · simp [List.getD, e]
      · have h1 : (ws ++ [0])[j]? = none := List.getElem?_eq_none (by simp; omega)
        have h2 : ws[j]? = none := List.getElem?_eq_none (by omega)
        simp [List.getD, h1, h2]
  · rfl

theorem grow_length (ws : List Int) (q : Nat) (h : q ≤ ws.length) : (grow ws q).length = max ws.length (q + 1) := by
  unfold grow
  split
  · simp; omega
  · omega

theorem grow_words {ws : List Int} (h : Words ws) (q : Nat) : Words (grow ws q) := by
  unfold grow
  split
  · intro x hx
    rcases List.mem_append.1 hx with h1 | h1
    · exact h x h1
    · simp at h1
      omega
  · exact h

theorem pushW_length (ws : List Int) (d : Nat) (b : Bool) (h : d / 64 ≤ ws.length) : (pushW ws d b).length = max ws.length (d / 64 + 1) := by
  rw [pushW, List.length_set, grow_length ws _ h]

theorem pushW_words {ws : List Int} (h : Words ws) (d : Nat) (b : Bool) : Words (pushW ws d b) := by
  intro x hx
  rcases List.mem_or_eq_of_mem_set hx with h1 | h1
  · exact grow_words h _ x h1
  · rw [h1]
    exact setBit_word _ _ _ (Nat.mod_lt _ (by omega)) (words_getD (grow_words h _) _).2

theorem pushW_bit (ws : List Int) (d : Nat) (b : Bool) (h : d / 64 ≤ ws.length) (p : Nat) : bitAt (pushW ws d b) p = if p = d then b else bitAt ws p := by
  have hl : d / 64 < (grow ws (d / 64)).length := by rw [grow_length ws _ h]; omega
  unfold bitAt pushW
  by_cases e : d / 64 = p / 64
  · have e1 : ((grow ws (d / 64)).set (d / 64) (setBit ((grow ws (d / 64)).getD (d / 64) 0) (d % 64) b)).getD (p / 64) 0 = setBit (ws.getD (p / 64) 0) (d % 64) b := by
      rw [grow_getD, ← e]
      simp [List.getD, hl]
    rw [e1, setBit_bit _ _ _ _ (Nat.mod_lt _ (by omega)) (Nat.mod_lt _ (by omega))]
    by_cases e2 : p = d
    · simp [e2]
    · have e3 : ¬ p % 64 = d % 64 := by omega
      simp [e2, e3]
  · have e1 : ((grow ws (d / 64)).set (d / 64) (setBit ((grow ws (d / 64)).getD (d / 64) 0) (d % 64) b)).getD (p / 64) 0 = ws.getD (p / 64) 0 := by
      rw [← grow_getD ws (d / 64) (p / 64)]
      simp [List.getD, List.getElem?_set_ne e]
    rw [e1]
    have e2 : ¬ p = d := by intro h; exact e (by rw [h])
    simp [e2]

/-- The row behind i pushes from depth d on. -/
def st (ws : List Int) (d : Nat) (f : Nat → Bool) : Nat → List Int
  | 0 => ws
  | i + 1 => pushW (st ws d f i) (d + i) (f i)

theorem st_inv {ws : List Int} (hw : Words ws) (d : Nat) (hd : d / 64 ≤ ws.length) (f : Nat → Bool) (i : Nat) :
    Words (st ws d f i) ∧ (st ws d f i).length = (if i = 0 then ws.length else max ws.length ((d + i - 1) / 64 + 1)) ∧
    (d + i) / 64 ≤ (st ws d f i).length ∧ ∀ p, bitAt (st ws d f i) p = if d ≤ p ∧ p < d + i then f (p - d) else bitAt ws p := by
  induction i with
  | zero =>
    refine ⟨hw, rfl, hd, fun p => ?_⟩
    have : ¬ (d ≤ p ∧ p < d + 0) := by omega
    rw [if_neg this]
    rfl
  | succ i ih =>
    obtain ⟨h1, h2, h3, h4⟩ := ih
    have hl : (st ws d f (i + 1)).length = max ws.length ((d + (i + 1) - 1) / 64 + 1) := by
      rw [st, pushW_length _ _ _ h3, h2]
      split
      · rename_i h0
        subst h0
        simp
      · omega
    refine ⟨pushW_words h1 _ _, by rw [hl, if_neg (by omega)], by rw [hl]; omega, fun p => ?_⟩
    rw [st, pushW_bit _ _ _ h3, h4]
    by_cases e : p = d + i
    · subst e
      rw [if_pos rfl, if_pos (by omega), show d + i - d = i from by omega]
    · rw [if_neg e]
      by_cases e2 : d ≤ p ∧ p < d + i
      · rw [if_pos e2, if_pos (by omega)]
      · rw [if_neg e2, if_neg (by omega)]

theorem bit_behind (ws : List Int) (p : Nat) (h : 64 * ws.length ≤ p) : bitAt ws p = false := by
  have e : ws.getD (p / 64) 0 = 0 := by
    have : ws[p / 64]? = none := List.getElem?_eq_none (by omega)
    simp [List.getD, this]
  rw [bitAt, e]
  simp [bitW]

end Go.Proofs.Qxb6617535a
