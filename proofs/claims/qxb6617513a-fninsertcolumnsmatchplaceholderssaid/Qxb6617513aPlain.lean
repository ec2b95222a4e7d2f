/-
  Seat b6617513a. Plain facts: what the law's little parser reads, as functions over lists of bytes. No Go in sight.
-/
import Derived.Lib.Strings
namespace Go.Proofs.Qxb6617513a

/-- The numbers behind the dollar signs. The first argument: outside a number, or inside one, with its value and its count of digits so far. -/
def numsOf : Option (Int × Nat) → List UInt8 → Option (List Int)
  | none, [] => some []
  | none, c :: t => if c.toNat = 36 then numsOf (some (0, 0)) t else numsOf none t
  | some (n, k), [] => if k = 0 then none else some [n]
  | some (n, k), c :: t =>
    if 48 ≤ c.toNat ∧ c.toNat ≤ 57 then (if 6 ≤ k then none else numsOf (some (n * 10 + ((c.toNat : Int) - 48), k + 1)) t)
    else if k = 0 then none else (if c.toNat = 36 then numsOf (some (0, 0)) t else numsOf none t).map (n :: ·)

theorem nums_skip (c : UInt8) (t : List UInt8) (h : c.toNat ≠ 36) : numsOf none (c :: t) = numsOf none t := by simp [numsOf, h]
theorem nums_dollar (c : UInt8) (t : List UInt8) (h : c.toNat = 36) : numsOf none (c :: t) = numsOf (some (0, 0)) t := by simp [numsOf, h]
theorem nums_digit (n : Int) (k : Nat) (c : UInt8) (t : List UInt8) (r : List Int) (h1 : 48 ≤ c.toNat) (h2 : c.toNat ≤ 57) (h : numsOf (some (n, k)) (c :: t) = some r) :
    k < 6 ∧ numsOf (some (n * 10 + ((c.toNat : Int) - 48), k + 1)) t = some r := by
  by_cases hk : 6 ≤ k
  · simp [numsOf, h1, h2, hk] at h
  · simp [numsOf, h1, h2, hk] at h
    exact ⟨by omega, h⟩
theorem nums_end (n : Int) (k : Nat) (l : List UInt8) (r : List Int) (hl : ∀ c t, l = c :: t → ¬ (48 ≤ c.toNat ∧ c.toNat ≤ 57)) (h : numsOf (some (n, k)) l = some r) :
    k ≠ 0 ∧ ∃ r', r = n :: r' ∧ numsOf none l = some r' := by
  cases l with
  | nil =>
    by_cases hk : k = 0
    · simp [numsOf, hk] at h
    · simp [numsOf, hk] at h
      exact ⟨hk, [], h.symm, rfl⟩
  | cons c t =>
    have hd := hl c t rfl
    by_cases hk : k = 0
    · simp [numsOf, hk, hd] at h
    · rw [numsOf, if_neg hd, if_neg hk] at h
      refine ⟨hk, ?_⟩
      rw [Option.map_eq_some_iff] at h
      obtain ⟨r', h1, h2⟩ := h
      refine ⟨r', h2.symm, ?_⟩
      rw [numsOf]
      exact h1

/-- A column's piece: the first as it stands; each further one without its leading blank. -/
def piece (first : Bool) (cur : List UInt8) : Option (List UInt8) :=
  if first then some cur else match cur with
    | c :: p => if c.toNat = 32 then some p else none
    | [] => none

/-- The columns, cut at commas. 'cur': what has been read of the present piece. -/
def colsOf : Bool → List UInt8 → List UInt8 → Option (List (List UInt8))
  | first, cur, [] => (piece first cur).map fun p => [p]
  | first, cur, c :: t => if c.toNat = 44 then (piece first cur).bind fun p => (colsOf false [] t).map (p :: ·) else colsOf first (cur ++ [c]) t

theorem cols_go (first : Bool) (cur : List UInt8) (c : UInt8) (t : List UInt8) (h : c.toNat ≠ 44) : colsOf first cur (c :: t) = colsOf first (cur ++ [c]) t := by simp [colsOf, h]
theorem cols_comma (first : Bool) (cur : List UInt8) (c : UInt8) (t : List UInt8) (r : List (List UInt8)) (h : c.toNat = 44) (hr : colsOf first cur (c :: t) = some r) :
    ∃ p r', piece first cur = some p ∧ r = p :: r' ∧ colsOf false [] t = some r' := by
  rw [colsOf, if_pos h, Option.bind_eq_some_iff] at hr
  obtain ⟨p, h1, h2⟩ := hr
  rw [Option.map_eq_some_iff] at h2
  obtain ⟨r', h3, h4⟩ := h2
  exact ⟨p, r', h1, h4.symm, h3⟩
theorem cols_end (first : Bool) (cur : List UInt8) (r : List (List UInt8)) (hr : colsOf first cur [] = some r) : ∃ p, piece first cur = some p ∧ r = [p] := by
  rw [colsOf, Option.map_eq_some_iff] at hr
  obtain ⟨p, h1, h2⟩ := hr
  exact ⟨p, h1, h2.symm⟩
theorem piece_first (cur p : List UInt8) (h : piece true cur = some p) : cur = p := by simpa [piece] using h
theorem piece_next (cur p : List UInt8) (h : piece false cur = some p) : ∃ c, c.toNat = 32 ∧ cur = c :: p := by
  cases cur with
  | nil => simp [piece] at h
  | cons c q =>
    by_cases hc : c.toNat = 32
    · simp [piece, hc] at h
      exact ⟨c, hc, by rw [h]⟩
    · simp [piece, hc] at h

/-- The first column: whatever holds no comma. -/
theorem cols_first (col : List UInt8) (hc : ∀ b ∈ col, b.toNat ≠ 44) : ∀ (cur t : List UInt8), colsOf true cur (col ++ 44 :: t) = (colsOf false [] t).map ((cur ++ col) :: ·) := by
  induction col with
  | nil =>
    intro cur t
    simp [colsOf, piece]
  | cons c r ih =>
    intro cur t
    rw [List.cons_append, cols_go true cur c _ (hc c (by simp)), ih (fun b hb => hc b (by simp [hb]))]
    simp

theorem cut_succ (l : List UInt8) (a i : Nat) (h1 : a ≤ i) (h2 : i < l.length) : (l.drop a).take (i + 1 - a) = (l.drop a).take (i - a) ++ [l[i]] := by
  rw [show i + 1 - a = i - a + 1 from by omega, List.take_succ_eq_append_getElem (by rw [List.length_drop]; omega)]
  congr 1
  simp only [List.getElem_drop]
  congr 2
  omega

def tailNo : List UInt8 := [32, 107, 105, 110, 100, 44, 32, 98, 101, 102, 111, 114, 101, 44, 32, 97, 102, 116, 101, 114, 44, 32, 114, 101, 97, 115, 111, 110, 44, 32, 111, 112, 101, 114, 97, 116, 111, 114, 44, 32, 105, 112, 95, 97, 100, 100, 114, 101, 115, 115, 44, 32, 117, 115, 101, 114, 95, 97, 103, 101, 110, 116, 44, 32, 99, 114, 101, 97, 116, 101, 100, 95, 97, 116]
def tailYes : List UInt8 := tailNo ++ [44, 32, 100, 97, 121, 115, 95, 97, 100, 100, 101, 100]
def namesNo : List (List UInt8) := [[107, 105, 110, 100], [98, 101, 102, 111, 114, 101], [97, 102, 116, 101, 114], [114, 101, 97, 115, 111, 110], [111, 112, 101, 114, 97, 116, 111, 114], [105, 112, 95, 97, 100, 100, 114, 101, 115, 115], [117, 115, 101, 114, 95, 97, 103, 101, 110, 116], [99, 114, 101, 97, 116, 101, 100, 95, 97, 116]]
def namesYes : List (List UInt8) := namesNo ++ [[100, 97, 121, 115, 95, 97, 100, 100, 101, 100]]
def valsNo : List UInt8 := [36, 49, 44, 32, 36, 50, 44, 32, 36, 51, 44, 32, 36, 52, 44, 32, 110, 117, 108, 108, 105, 102, 40, 36, 53, 44, 32, 39, 39, 41, 44, 32, 36, 54, 44, 32, 36, 55, 44, 32, 36, 56, 44, 32, 36, 57]
def valsYes : List UInt8 := valsNo ++ [44, 32, 110, 117, 108, 108, 105, 102, 40, 36, 49, 48, 44, 32, 48, 41]

theorem cols_no (column : List UInt8) (hc : ∀ b ∈ column, b.toNat ≠ 44) : colsOf true [] (column ++ 44 :: tailNo) = some (column :: namesNo) := by
  rw [cols_first column hc]
  have : colsOf false [] tailNo = some namesNo := by decide +kernel
  rw [this]
  rfl
theorem cols_yes (column : List UInt8) (hc : ∀ b ∈ column, b.toNat ≠ 44) : colsOf true [] (column ++ 44 :: tailYes) = some (column :: namesYes) := by
  rw [cols_first column hc]
  have : colsOf false [] tailYes = some namesYes := by decide +kernel
  rw [this]
  rfl
theorem nums_no : numsOf none valsNo = some [1, 2, 3, 4, 5, 6, 7, 8, 9] := by decide +kernel
theorem nums_yes : numsOf none valsYes = some [1, 2, 3, 4, 5, 6, 7, 8, 9, 10] := by decide +kernel

def headB : List UInt8 := [73, 78, 83, 69, 82, 84, 32, 73, 78, 84, 79, 32]
def midB : List UInt8 := [41, 32, 86, 65, 76, 85, 69, 83, 32, 40]

/-- A text of bytes. -/
def bs (l : List UInt8) : ByteArray := ⟨l.toArray⟩
theorem bs_data (s : ByteArray) : bs s.data.toList = s := rfl
theorem bs_eq {s : ByteArray} {l : List UInt8} (h : s.data.toList = l) : s = bs l := by rw [← h, bs_data]
theorem bs_toList (l : List UInt8) : (bs l).data.toList = l := rfl
theorem bs_size (l : List UInt8) : (bs l).size = l.length := by
  show l.toArray.size = _
  simp
theorem size_of {s : ByteArray} {l : List UInt8} (h : s.data.toList = l) : s.size = l.length := by rw [← h]; simp

/-- The byte at a place. -/
theorem at_of {s : ByteArray} {l : List UInt8} (h : s.data.toList = l) (k : Nat) (hk : k < s.size) : l[k]? = some s[k] := by
  rw [← h, Array.getElem?_toList]
  exact Array.getElem?_eq_getElem hk

theorem extract_list (s : ByteArray) (a b : Nat) : (s.extract a b).data.toList = (s.data.toList.drop a).take (b - a) := Lib.extract_data s a b

end Go.Proofs.Qxb6617513a
