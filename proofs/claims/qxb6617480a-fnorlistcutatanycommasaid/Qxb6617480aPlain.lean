/-
  Seat b6617480a. Plain facts on joining lists of bytes: no Go in sight.
-/
import Derived.Lib.Join
namespace Go.Proofs.Qxb6617480a

/-- Texts as lists of bytes. -/
def pl (xs : List ByteArray) : List (List UInt8) := xs.map fun x : ByteArray => x.data.toList

theorem pl_append (a b : List ByteArray) : pl (a ++ b) = pl a ++ pl b := by simp [pl]
theorem pl_length (a : List ByteArray) : (pl a).length = a.length := by simp [pl]

theorem joinTail_append (sep : List UInt8) (a b : List (List UInt8)) : Lib.joinTail sep (a ++ b) = Lib.joinTail sep a ++ Lib.joinTail sep b := by simp [Lib.joinTail]

theorem joinTail_cons (sep y : List UInt8) (t : List (List UInt8)) : Lib.joinTail sep (y :: t) = sep ++ Lib.join (y :: t) sep := by
  rw [Lib.join_cons]
  simp [Lib.joinTail]

theorem join_append (xs ys : List (List UInt8)) (sep : List UInt8) (hx : xs ≠ []) (hy : ys ≠ []) : Lib.join (xs ++ ys) sep = Lib.join xs sep ++ sep ++ Lib.join ys sep := by
  obtain ⟨x, r, rfl⟩ := List.exists_cons_of_ne_nil hx
  obtain ⟨y, t, rfl⟩ := List.exists_cons_of_ne_nil hy
  rw [List.cons_append, Lib.join_cons, Lib.join_cons x r, joinTail_append, joinTail_cons]
  simp

theorem join_le (xs : List (List UInt8)) (sep : List UInt8) : (Lib.join xs sep).length ≤ Lib.lens xs + sep.length * xs.length := by
  cases xs with
  | nil => simp [Lib.join_nil]
  | cons x r =>
    rw [Lib.join_cons, List.length_append, Lib.joinTail_length]
    have : Lib.lens (x :: r) = x.length + Lib.lens r := by simp [Lib.lens]
    rw [this, List.length_cons, Nat.mul_succ]
    omega

theorem lens_append (a b : List (List UInt8)) : Lib.lens (a ++ b) = Lib.lens a + Lib.lens b := by simp [Lib.lens]

theorem lens_split (xs : List ByteArray) (k : Nat) : Lib.lens (pl xs) = Lib.lens (pl (xs.take k)) + Lib.lens (pl (xs.drop k)) := by
  rw [← lens_append, ← pl_append, List.take_append_drop]

theorem getD_of_lt (xs : List ByteArray) (k : Nat) (h : k < xs.length) : xs.getD k ByteArray.empty = xs[k] := by simp [List.getD, h]

theorem pl_take_succ (xs : List ByteArray) (k : Nat) (h : k < xs.length) : pl (xs.take (k + 1)) = pl (xs.take k) ++ [(xs.getD k ByteArray.empty).data.toList] := by
  rw [List.take_succ_eq_append_getElem h, pl_append, getD_of_lt xs k h]
  rfl

theorem lens_succ (xs : List ByteArray) (k : Nat) (h : k < xs.length) : Lib.lens (pl (xs.take (k + 1))) = Lib.lens (pl (xs.take k)) + (xs.getD k ByteArray.empty).size := by
  rw [pl_take_succ xs k h, lens_append]
  simp [Lib.lens]

theorem J_zero (xs : List ByteArray) : Lib.join (pl (xs.take 0)) [44, 32] = [] := by simp [pl, Lib.join_nil]
theorem J_one (xs : List ByteArray) (h : 0 < xs.length) : Lib.join (pl (xs.take 1)) [44, 32] = (xs.getD 0 ByteArray.empty).data.toList := by
  have := pl_take_succ xs 0 h
  rw [this]
  simp [pl, Lib.join_one]
theorem J_succ (xs : List ByteArray) (k : Nat) (h0 : 0 < k) (h : k < xs.length) :
    Lib.join (pl (xs.take (k + 1))) [44, 32] = Lib.join (pl (xs.take k)) [44, 32] ++ [44, 32] ++ (xs.getD k ByteArray.empty).data.toList := by
  rw [pl_take_succ xs k h, join_append _ _ _ _ (by simp), Lib.join_one]
  intro e
  have := congrArg List.length e
  rw [pl_length, List.length_take, List.length_nil] at this
  omega
theorem J_mono (xs : List ByteArray) (n : Nat) (hn : n ≤ xs.length) : ∀ k, k ≤ n → (Lib.join (pl (xs.take k)) [44, 32]).length ≤ (Lib.join (pl (xs.take n)) [44, 32]).length := by
  intro k hk
  induction n with
  | zero => obtain rfl : k = 0 := by omega
            exact Nat.le_refl _
  | succ n ih =>
    by_cases e : k = n + 1
    · rw [e]; exact Nat.le_refl _
    · have h1 := ih (by omega) (by omega)
      by_cases h0 : n = 0
      · subst h0
        obtain rfl : k = 0 := by omega
        rw [J_zero]
        simp
      · rw [J_succ xs n (by omega) (by omega)]
        simp only [List.length_append]
        omega
theorem J_le (xs : List ByteArray) : (Lib.join (pl xs) [44, 32]).length ≤ Lib.lens (pl xs) + 2 * xs.length := by
  have := join_le (pl xs) [44, 32]
  rw [pl_length] at this
  exact this

/-- What 'orList' answers for the texts xs and, behind them, y. -/
def orL (xs : List ByteArray) (y : ByteArray) : ByteArray := ⟨(Lib.join (pl xs) [44, 32] ++ [32, 111, 114, 32] ++ y.data.toList).toArray⟩

theorem orL_one (x y : ByteArray) : orL [x] y = x ++ ⟨#[32, 111, 114, 32]⟩ ++ y := by
  apply ByteArray.ext
  apply Array.toList_inj.1
  simp [orL, pl, Lib.join_one]

/-- THE LAW: cut at any comma. -/
theorem orL_cut (xs : List ByteArray) (y : ByteArray) (k : Nat) (h1 : 1 ≤ k) (h2 : k < xs.length) :
    orL xs y = ⟨(Lib.join (pl (xs.take k)) [44, 32]).toArray⟩ ++ ⟨#[44, 32]⟩ ++ orL (xs.drop k) y := by
  have e : Lib.join (pl xs) [44, 32] = Lib.join (pl (xs.take k)) [44, 32] ++ [44, 32] ++ Lib.join (pl (xs.drop k)) [44, 32] := by
    have hx : pl (xs.take k) ≠ [] := by
      intro e
      have := congrArg List.length e
      rw [pl_length, List.length_take, List.length_nil] at this
      omega
    have hy : pl (xs.drop k) ≠ [] := by
      intro e
      have := congrArg List.length e
      rw [pl_length] at this
      simp at this
      omega
    rw [← join_append _ _ _ hx hy, ← pl_append, List.take_append_drop]
  apply ByteArray.ext
  apply Array.toList_inj.1
  simp [orL, e]

end Go.Proofs.Qxb6617480a
