/-
  Seat b6617513a. The two loops' relations, plain: how far the columns and the numbers have been read.
-/
import Derived.Test.Qxb6617513aPlain
namespace Go.Proofs.Qxb6617513a

/-- Texts as lists of bytes. -/
def pl (xs : List ByteArray) : List (List UInt8) := xs.map fun x : ByteArray => x.data.toList
theorem pl_snoc (a : List ByteArray) (y : ByteArray) : pl (a ++ [y]) = pl a ++ [y.data.toList] := by simp [pl]

/-- The columns read so far are 'cs', the present piece begins at 'a', the next byte is number 'k'; behind the last byte all are read. -/
def ColRel (col : List UInt8) (cols : List (List UInt8)) (cs : List ByteArray) (a k : Nat) : Prop :=
  (k ≤ col.length ∧ a ≤ k ∧ ∃ rest, colsOf cs.isEmpty ((col.drop a).take (k - a)) (col.drop k) = some rest ∧ pl cs ++ rest = cols) ∨ (k = col.length + 1 ∧ pl cs = cols)

theorem col_start {col : List UInt8} {cols : List (List UInt8)} (h : colsOf true [] col = some cols) : ColRel col cols [] 0 0 :=
  .inl ⟨Nat.zero_le _, Nat.le_refl _, cols, by simpa using h, rfl⟩

theorem col_done {col : List UInt8} {cols : List (List UInt8)} {cs : List ByteArray} {a k : Nat} (h : ColRel col cols cs a k) (hk : col.length < k) : pl cs = cols := by
  rcases h with ⟨h1, _⟩ | ⟨_, h2⟩
  · omega
  · exact h2

theorem col_le {col : List UInt8} {cols : List (List UInt8)} {cs : List ByteArray} {a k : Nat} (h : ColRel col cols cs a k) (hk : k ≤ col.length) : a ≤ k := by
  rcases h with ⟨_, h1, _⟩ | ⟨h1, _⟩
  · exact h1
  · omega

theorem drop_at (l : List UInt8) (k : Nat) (h : k < l.length) : l.drop k = l[k] :: l.drop (k + 1) := List.drop_eq_getElem_cons h

theorem col_miss {col : List UInt8} {cols : List (List UInt8)} {cs : List ByteArray} {a k : Nat} (h : ColRel col cols cs a k) (hk : k < col.length) (hb : col[k].toNat ≠ 44) : ColRel col cols cs a (k + 1) := by
  rcases h with ⟨h1, h2, rest, h3, h4⟩ | ⟨h1, _⟩
  · refine .inl ⟨by omega, by omega, rest, ?_, h4⟩
    rw [drop_at col k hk, cols_go _ _ _ _ hb] at h3
    rw [cut_succ col a k h2 hk]
    exact h3
  · omega

theorem col_hit {col : List UInt8} {cols : List (List UInt8)} {cs : List ByteArray} {a k : Nat} (h : ColRel col cols cs a k) (hk : k ≤ col.length) (hb : ∀ hlt : k < col.length, col[k].toNat = 44) :
    ∃ p, piece cs.isEmpty ((col.drop a).take (k - a)) = some p ∧ ∀ y : ByteArray, y.data.toList = p → ColRel col cols (cs ++ [y]) (k + 1) (k + 1) := by
  rcases h with ⟨h1, h2, rest, h3, h4⟩ | ⟨h1, _⟩
  · by_cases hlt : k < col.length
    · rw [drop_at col k hlt] at h3
      obtain ⟨p, r', e1, e2, e3⟩ := cols_comma _ _ _ _ _ (hb hlt) h3
      refine ⟨p, e1, fun y hy => .inl ⟨by omega, Nat.le_refl _, r', ?_, ?_⟩⟩
      · have e : (cs ++ [y]).isEmpty = false := by cases cs <;> rfl
        rw [e, Nat.sub_self, List.take_zero]
        exact e3
      · rw [pl_snoc, hy, ← h4, e2]; simp
    · have hd : col.drop k = [] := List.drop_of_length_le (by omega)
      rw [hd] at h3
      obtain ⟨p, e1, e2⟩ := cols_end _ _ _ h3
      refine ⟨p, e1, fun y hy => .inr ⟨by omega, ?_⟩⟩
      rw [pl_snoc, hy, ← h4, e2]
  · omega

/-- The numbers read so far are 'ns', the next byte is number 'i', outside a number. -/
def NumRel (l : List UInt8) (nums ns : List Int) (i : Nat) : Prop := i ≤ l.length ∧ ∃ rest, numsOf none (l.drop i) = some rest ∧ ns ++ rest = nums
/-- Inside a number that holds 'n' so far, by 'k' digits; the next byte is number 'j'. -/
def DigRel (l : List UInt8) (nums ns : List Int) (n : Int) (k j : Nat) : Prop := j ≤ l.length ∧ k ≤ 6 ∧ 0 ≤ n ∧ n < 10 ^ k ∧ ∃ rest, numsOf (some (n, k)) (l.drop j) = some rest ∧ ns ++ rest = nums

theorem num_start {l : List UInt8} {nums : List Int} (h : numsOf none l = some nums) : NumRel l nums [] 0 := ⟨Nat.zero_le _, nums, by simpa using h, rfl⟩
theorem num_done {l : List UInt8} {nums ns : List Int} {i : Nat} (h : NumRel l nums ns i) (hi : l.length ≤ i) : ns = nums := by
  obtain ⟨_, rest, h1, h2⟩ := h
  rw [List.drop_of_length_le hi] at h1
  simp [numsOf] at h1
  rw [← h2, h1]; simp
theorem num_skip {l : List UInt8} {nums ns : List Int} {i : Nat} (h : NumRel l nums ns i) (hi : i < l.length) (hb : l[i].toNat ≠ 36) : NumRel l nums ns (i + 1) := by
  obtain ⟨_, rest, h1, h2⟩ := h
  rw [drop_at l i hi, nums_skip _ _ hb] at h1
  exact ⟨by omega, rest, h1, h2⟩
theorem num_dollar {l : List UInt8} {nums ns : List Int} {i : Nat} (h : NumRel l nums ns i) (hi : i < l.length) (hb : l[i].toNat = 36) : DigRel l nums ns 0 0 (i + 1) := by
  obtain ⟨_, rest, h1, h2⟩ := h
  rw [drop_at l i hi, nums_dollar _ _ hb] at h1
  exact ⟨by omega, by omega, by omega, by decide, rest, h1, h2⟩
theorem dig_digit {l : List UInt8} {nums ns : List Int} {n : Int} {k j : Nat} (h : DigRel l nums ns n k j) (hj : j < l.length) (h1 : 48 ≤ l[j].toNat) (h2 : l[j].toNat ≤ 57) :
    k < 6 ∧ DigRel l nums ns (n * 10 + ((l[j].toNat : Int) - 48)) (k + 1) (j + 1) := by
  obtain ⟨_, hk, hn0, hn1, rest, h3, h4⟩ := h
  rw [drop_at l j hj] at h3
  obtain ⟨h5, h6⟩ := nums_digit _ _ _ _ _ h1 h2 h3
  refine ⟨h5, by omega, by omega, by omega, ?_, rest, h6, h4⟩
  rw [Int.pow_succ]
  omega
theorem dig_end {l : List UInt8} {nums ns : List Int} {n : Int} {k j : Nat} (h : DigRel l nums ns n k j) (hb : ∀ hj : j < l.length, ¬ (48 ≤ l[j].toNat ∧ l[j].toNat ≤ 57)) :
    k ≠ 0 ∧ NumRel l nums (ns ++ [n]) j := by
  obtain ⟨hj0, hk, hn0, hn1, rest, h3, h4⟩ := h
  obtain ⟨h5, r', h6, h7⟩ := nums_end n k (l.drop j) rest (fun c t e => by
    have hj : j < l.length := by
      have := congrArg List.length e
      simp at this
      omega
    rw [drop_at l j hj] at e
    have := (List.cons.inj e).1
    rw [← this]
    exact hb hj) h3
  refine ⟨h5, hj0, r', h7, ?_⟩
  rw [← h4, h6]; simp
theorem dig_bound {l : List UInt8} {nums ns : List Int} {n : Int} {k j : Nat} (h : DigRel l nums ns n k j) : 0 ≤ n ∧ n ≤ 1000000 := by
  obtain ⟨_, hk, hn0, hn1, _⟩ := h
  refine ⟨hn0, ?_⟩
  have : (10 : Int) ^ k ≤ 10 ^ 6 := by
    match k, hk with
    | 0, _ => decide
    | 1, _ => decide
    | 2, _ => decide
    | 3, _ => decide
    | 4, _ => decide
    | 5, _ => decide
    | 6, _ => decide
  have e : (10 : Int) ^ 6 = 1000000 := by decide
  omega

end Go.Proofs.Qxb6617513a
