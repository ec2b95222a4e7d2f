/-
  Seat b6617513a. The parser's contract at the two statements that the history makes.
-/
import Derived.Test.Qxb6617513aParse
namespace Go.Proofs.Qxb6617513a
open Go.RowKit

theorem text_no (t c : ByteArray) : (insertText t c ⟨#[]⟩ ⟨#[]⟩).data.toList = headB ++ (t.data.toList ++ (32 :: 40 :: ((c.data.toList ++ 44 :: tailNo) ++ (midB ++ (valsNo ++ [41]))))) := by
  simp [insertText, headB, midB, tailNo, valsNo]
theorem text_yes (t c : ByteArray) : (insertText t c ⟨#[44, 32, 100, 97, 121, 115, 95, 97, 100, 100, 101, 100]⟩ ⟨#[44, 32, 110, 117, 108, 108, 105, 102, 40, 36, 49, 48, 44, 32, 48, 41]⟩).data.toList =
    headB ++ (t.data.toList ++ (32 :: 40 :: ((c.data.toList ++ 44 :: tailYes) ++ (midB ++ (valsYes ++ [41]))))) := by
  simp [insertText, headB, midB, tailNo, valsNo, tailYes, valsYes]

/-- The columns' names, by number: the same nine of both statements, then the tenth. -/
def nm (c : ByteArray) (j : Nat) : ByteArray := bs ((c.data.toList :: namesYes).getD j [])
theorem nm_zero (c : ByteArray) : nm c 0 = c := rfl
theorem nm_nine (c : ByteArray) : nm c 9 = ⟨#[100, 97, 121, 115, 95, 97, 100, 100, 101, 100]⟩ := rfl
theorem nm_no (c : ByteArray) (j : Nat) (h : j < 9) : bs ((c.data.toList :: namesNo).getD j []) = nm c j := by
  match j, h with
  | 0, _ => rfl
  | 1, _ => rfl
  | 2, _ => rfl
  | 3, _ => rfl
  | 4, _ => rfl
  | 5, _ => rfl
  | 6, _ => rfl
  | 7, _ => rfl
  | 8, _ => rfl
theorem up_no (j : Nat) (h : j < 9) : ([1, 2, 3, 4, 5, 6, 7, 8, 9] : List Int).getD j 0 = (j : Int) + 1 := by
  match j, h with
  | 0, _ => rfl
  | 1, _ => rfl
  | 2, _ => rfl
  | 3, _ => rfl
  | 4, _ => rfl
  | 5, _ => rfl
  | 6, _ => rfl
  | 7, _ => rfl
  | 8, _ => rfl
theorem up_yes (j : Nat) (h : j < 10) : ([1, 2, 3, 4, 5, 6, 7, 8, 9, 10] : List Int).getD j 0 = (j : Int) + 1 := by
  match j, h with
  | 0, _ => rfl
  | 1, _ => rfl
  | 2, _ => rfl
  | 3, _ => rfl
  | 4, _ => rfl
  | 5, _ => rfl
  | 6, _ => rfl
  | 7, _ => rfl
  | 8, _ => rfl
  | 9, _ => rfl

/-- What the parser hands back of a statement with n columns: the table, the n names, the numbers 1 to n, in new memory. -/
def Got (w : World) (t c : ByteArray) (n : Nat) (e : Ending) (w' : World) : Prop :=
  ∃ gc cc gn cn, e = .returned (.tuple #[.string t, .slice (some ⟨gc, 0, none⟩) n cc, .slice (some ⟨gn, 0, none⟩) n cn, .bool true]) ∧
    (∀ j, j < n → w'.cell? ⟨gc, j, none⟩ = some (.string (nm c j))) ∧ (∀ j, j < n → w'.cell? ⟨gn, j, none⟩ = some (.int .i64 ((j : Int) + 1))) ∧
    gc < w'.heap.size ∧ gn < w'.heap.size ∧ Below w.heap.size w w'

/-- A text holds no such byte. -/
theorem none_of {s : ByteArray} {c : Int} (h : hasB s c = false) : ∀ b ∈ s.data.toList, (b.toNat : Int) ≠ c := by
  intro b hb e
  have : hasB s c = true := by
    rw [hasB, List.any_eq_true]
    exact ⟨b, hb, by simp [e]⟩
  rw [h] at this
  cases this

theorem tail_no_41 : ∀ b ∈ 44 :: tailNo, b.toNat ≠ 41 := by decide +kernel
theorem tail_yes_41 : ∀ b ∈ 44 :: tailYes, b.toNat ≠ 41 := by decide +kernel

theorem got_no (t c : ByteArray) (w : World) (ht : t.size ≤ 65536) (hc : c.size ≤ 65536) (h40 : hasB t 40 = false) (h44 : hasB c 44 = false) (h41 : hasB c 41 = false) :
    Calls Try.prog 7 #[.string (insertText t c ⟨#[]⟩ ⟨#[]⟩)] w fun e w' => Got w t c 9 e w' := by
  have hsz : (insertText t c ⟨#[]⟩ ⟨#[]⟩).size ≤ 1000000 := by
    rw [size_of (text_no t c)]
    simp only [List.length_append, List.length_cons, List.length_nil]
    have h1 : headB.length ≤ 100 := by decide +kernel
    have h2 : midB.length ≤ 100 := by decide +kernel
    have h3 : tailNo.length ≤ 100 := by decide +kernel
    have h4 : valsNo.length ≤ 100 := by decide +kernel
    have h5 : t.size = t.data.toList.length := size_of rfl
    have h6 : c.size = c.data.toList.length := size_of rfl
    omega
  refine (parse_any _ t.data.toList (c.data.toList ++ 44 :: tailNo) valsNo (c.data.toList :: namesNo) [1, 2, 3, 4, 5, 6, 7, 8, 9] w (text_no t c) hsz (fun b hb => by have := none_of h40 b hb; omega) (fun b hb => ?_)
    (cols_no _ (fun b hb => by have := none_of h44 b hb; omega)) nums_no (by simp) (by simp)).mono ?_
  · rcases List.mem_append.1 hb with h | h
    · have := none_of h41 b h; omega
    · exact tail_no_41 b h
  · rintro e w' ⟨gc, cc, gn, cn, he, h1, h2, h3, h4, h5⟩
    exact ⟨gc, cc, gn, cn, he, fun j hj => by rw [h1 j hj, nm_no c j hj], fun j hj => by rw [h2 j hj, up_no j hj], h3, h4, h5⟩

theorem got_yes (t c : ByteArray) (w : World) (ht : t.size ≤ 65536) (hc : c.size ≤ 65536) (h40 : hasB t 40 = false) (h44 : hasB c 44 = false) (h41 : hasB c 41 = false) :
    Calls Try.prog 7 #[.string (insertText t c ⟨#[44, 32, 100, 97, 121, 115, 95, 97, 100, 100, 101, 100]⟩ ⟨#[44, 32, 110, 117, 108, 108, 105, 102, 40, 36, 49, 48, 44, 32, 48, 41]⟩)] w fun e w' => Got w t c 10 e w' := by
  have hsz : (insertText t c ⟨#[44, 32, 100, 97, 121, 115, 95, 97, 100, 100, 101, 100]⟩ ⟨#[44, 32, 110, 117, 108, 108, 105, 102, 40, 36, 49, 48, 44, 32, 48, 41]⟩).size ≤ 1000000 := by
    rw [size_of (text_yes t c)]
    simp only [List.length_append, List.length_cons, List.length_nil]
    have h1 : headB.length ≤ 100 := by decide +kernel
    have h2 : midB.length ≤ 100 := by decide +kernel
    have h3 : tailYes.length ≤ 100 := by decide +kernel
    have h4 : valsYes.length ≤ 100 := by decide +kernel
    have h5 : t.size = t.data.toList.length := size_of rfl
    have h6 : c.size = c.data.toList.length := size_of rfl
    omega
  refine (parse_any _ t.data.toList (c.data.toList ++ 44 :: tailYes) valsYes (c.data.toList :: namesYes) [1, 2, 3, 4, 5, 6, 7, 8, 9, 10] w (text_yes t c) hsz (fun b hb => by have := none_of h40 b hb; omega) (fun b hb => ?_)
    (cols_yes _ (fun b hb => by have := none_of h44 b hb; omega)) nums_yes (by simp) (by simp)).mono ?_
  · rcases List.mem_append.1 hb with h | h
    · have := none_of h41 b h; omega
    · exact tail_yes_41 b h
  · rintro e w' ⟨gc, cc, gn, cn, he, h1, h2, h3, h4, h5⟩
    exact ⟨gc, cc, gn, cn, he, fun j hj => h1 j hj, fun j hj => by rw [h2 j hj, up_yes j hj], h3, h4, h5⟩

end Go.Proofs.Qxb6617513a
