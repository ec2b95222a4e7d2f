/-
  Seat b6617513a. Contracts of the small functions: the size guard (4), zzHasByte (5), zzHasPrefix (10), zzCountsUp (8), insert (9), ZZHistoryInsert (6).
-/
import Derived.Test.Qxb6617513aRows
import Derived.WalkKit
import Derived.WalkSpells
import Derived.WalkLawsBesides
namespace Go.Proofs.Qxb6617513a
open Go.RowKit

/-- The call has answered some bool. -/
def SomeBool (e : Ending) : Prop := ∃ r : Bool, e = .returned (.bool r)
theorem someBool_mk (r : Bool) : SomeBool (.returned (.bool r)) := ⟨r, rfl⟩

set_option maxHeartbeats 1000000 in
theorem bytes_any (a0 a1 a2 a3 a4 : ByteArray) (w : World) (h0 : a0.size ≤ 9223372036854775807) (h1 : a1.size ≤ 9223372036854775807) (h2 : a2.size ≤ 9223372036854775807) (h3 : a3.size ≤ 9223372036854775807) (h4 : a4.size ≤ 9223372036854775807) :
    Calls Try.prog 4 #[.string a0, .string a1, .string a2, .string a3, .string a4] w fun e w' => SomeBool e ∧ w' = w := by
  go_enter Try.func4, Try.ntmps4
  go_wp2
  all_goals go_ret
  all_goals exact ⟨someBool_mk _, rfl⟩

/-- Does the text hold the byte? -/
def hasB (s : ByteArray) (c : Int) : Bool := s.data.toList.any fun b => (b.toNat : Int) == c

theorem take_snoc (s : ByteArray) (k : Nat) (h : k < s.size) : s.data.toList.take (k + 1) = s.data.toList.take k ++ [s[k]] := by
  rw [List.take_succ_eq_append_getElem (by simpa using h)]; rfl

set_option maxHeartbeats 1000000 in
theorem hasByte_any (s : ByteArray) (c : Int) (w : World) (hs : s.size ≤ 9223372036854775807) :
    Calls Try.prog 5 #[.string s, .int .u8 c] w fun e w' => e = .returned (.bool (hasB s c)) ∧ w' = w := by
  obtain ⟨r, hr⟩ : ∃ r, r = hasB s c := ⟨_, rfl⟩
  rw [← hr]
  have HR : Hid (r = hasB s c) := hr
  clear hr
  go_enter Try.func5, Try.ntmps5
  go_wp2
  go_loop [5] (fun i => ∃ k : Nat, k ≤ s.size ∧ i = .int .i64 k ∧ Hid ((s.data.toList.take k).any (fun b => (b.toNat : Int) == c) = false)) (fun i => s.size - (intOf i).toNat)
  case atStart => exact ⟨0, Nat.zero_le _, rfl, rfl⟩
  case round =>
    obtain ⟨k, hk, rfl, HN⟩ := hrel
    by_cases hlt : k < s.size
    · have hts : Hid (s.data.toList.take (k + 1) = s.data.toList.take k ++ [s[k]]) := take_snoc s k hlt
      by_cases hc : (s[k].toNat : Int) = c
      · have hb : ((s[k].toNat : Int) == c) = true := by simp [hc]
        have hrt : r = true := by
          rw [HR.out, hasB, List.any_eq_true]
          refine ⟨s[k], ?_, hb⟩
          have : s[k] ∈ s.data.toList.take (k + 1) := by rw [hts.out]; simp
          exact List.mem_of_mem_take this
        subst hrt
        clear hc
        go_wp2
        go_ret
        exact ⟨rfl, rfl⟩
      · have hb : ((s[k].toNat : Int) == c) = false := by simp [hc]
        have HN' : Hid ((s.data.toList.take (k + 1)).any (fun b => (b.toNat : Int) == c) = false) := by
          show (s.data.toList.take (k + 1)).any _ = false
          rw [hts.out, List.any_append, HN.out]
          simp [hb]
        clear hc
        go_wp2
        go_round
        case rel => exact ⟨k + 1, by omega, by go_num, HN'⟩
        case measure => simp [intOf]; omega
    · have hrf : r = false := by
        rw [HR.out, hasB, ← HN.out, List.take_of_length_le (by simp; omega)]
      subst hrf
      go_wp2
      go_ret
      exact ⟨rfl, rfl⟩

set_option maxHeartbeats 1000000 in
theorem hasPrefix_yes (s p : ByteArray) (w : World) (_hs : s.size ≤ 9223372036854775807) (hp : p.size ≤ s.size) (h : s.extract 0 p.size = p) :
    Calls Try.prog 10 #[.string s, .string p] w fun e w' => e = .returned (.bool true) ∧ w' = w := by
  have hi : (p.size : Int) ≤ (s.size : Int) := by omega
  go_enter Try.func10, Try.ntmps10
  go_wp2
  go_ret
  exact ⟨rfl, rfl⟩

set_option maxHeartbeats 1000000 in
theorem countsUp_yes (g n cap : Nat) (w : World) (hn : n ≤ 1000) (hcell : ∀ j, j < n → w.cell? ⟨g, j, none⟩ = some (.int .i64 ((j : Int) + 1))) :
    Calls Try.prog 8 #[.slice (some ⟨g, 0, none⟩) n cap, .int .i64 n] w fun e w' => e = .returned (.bool true) ∧ w' = w := by
  have HC : Hid (∀ j, j < n → w.cell? ⟨g, j, none⟩ = some (.int .i64 ((j : Int) + 1))) := hcell
  clear hcell
  go_enter Try.func8, Try.ntmps8
  go_wp2
  go_loop [5] (fun i => ∃ k : Nat, k ≤ n ∧ i = .int .i64 k) (fun i => n - (intOf i).toNat)
  case atStart => exact ⟨0, Nat.zero_le _, rfl⟩
  case round =>
    obtain ⟨k, hk, rfl⟩ := hrel
    by_cases hlt : k < n
    · have hc := HC.out k hlt
      go_wp2
      go_round
      case rel => exact ⟨k + 1, by omega, by go_num⟩
      case measure => simp [intOf]; omega
    · go_wp2
      go_ret
      exact ⟨rfl, rfl⟩

/-- The statement's text, piece by piece, as the Go text adds it up. -/
def insertText (table column d1 d2 : ByteArray) : ByteArray :=
  ⟨#[73, 78, 83, 69, 82, 84, 32, 73, 78, 84, 79, 32]⟩ ++ table ++ ⟨#[32, 40]⟩ ++ column ++ ⟨#[44, 32, 107, 105, 110, 100, 44, 32, 98, 101, 102, 111, 114, 101, 44, 32, 97, 102, 116, 101, 114, 44, 32, 114, 101, 97, 115, 111, 110, 44, 32, 111, 112, 101, 114, 97, 116, 111, 114, 44, 32, 105, 112, 95, 97, 100, 100, 114, 101, 115, 115, 44, 32]⟩ ++ ⟨#[117, 115, 101, 114, 95, 97, 103, 101, 110, 116, 44, 32, 99, 114, 101, 97, 116, 101, 100, 95, 97, 116]⟩ ++ d1 ++ ⟨#[41, 32]⟩ ++ ⟨#[86, 65, 76, 85, 69, 83, 32, 40, 36, 49, 44, 32, 36, 50, 44, 32, 36, 51, 44, 32, 36, 52, 44, 32, 110, 117, 108, 108, 105, 102, 40, 36, 53, 44, 32, 39, 39, 41, 44, 32, 36, 54, 44, 32, 36, 55, 44, 32, 36, 56, 44, 32, 36, 57]⟩ ++ d2 ++ ⟨#[41]⟩

set_option maxHeartbeats 1000000 in
theorem insert_no (table column o1 o2 o3 : ByteArray) (w : World) (ht : table.size ≤ 65536) (hc : column.size ≤ 65536) :
    Calls Try.prog 9 #[.agg #[.string table, .string column, .string o1, .string o2, .string o3, .bool false]] w fun e w' => e = .returned (.string (insertText table column ⟨#[]⟩ ⟨#[]⟩)) ∧ Below w.heap.size w w' := by
  unfold insertText
  go_enter Try.func9, Try.ntmps9
  go_wp2
  go_ret
  exact ⟨rfl, (Below.refl _ _).alloc (Nat.le_refl _) _⟩

set_option maxHeartbeats 1000000 in
theorem insert_yes (table column o1 o2 o3 : ByteArray) (w : World) (ht : table.size ≤ 65536) (hc : column.size ≤ 65536) :
    Calls Try.prog 9 #[.agg #[.string table, .string column, .string o1, .string o2, .string o3, .bool true]] w fun e w' => e = .returned (.string (insertText table column ⟨#[44, 32, 100, 97, 121, 115, 95, 97, 100, 100, 101, 100]⟩ ⟨#[44, 32, 110, 117, 108, 108, 105, 102, 40, 36, 49, 48, 44, 32, 48, 41]⟩)) ∧ Below w.heap.size w w' := by
  unfold insertText
  go_enter Try.func9, Try.ntmps9
  go_wp2
  go_ret
  exact ⟨rfl, (Below.refl _ _).alloc (Nat.le_refl _) _⟩

set_option maxHeartbeats 1000000 in
theorem zzinsert_no (table column o1 o2 o3 : ByteArray) (w : World) (ht : table.size ≤ 65536) (hc : column.size ≤ 65536) :
    Calls Try.prog 6 #[.string table, .string column, .string o1, .string o2, .string o3, .bool false] w fun e w' => e = .returned (.string (insertText table column ⟨#[]⟩ ⟨#[]⟩)) ∧ Below w.heap.size w w' := by
  have H := insert_no table column o1 o2 o3 w ht hc
  generalize insertText table column ⟨#[]⟩ ⟨#[]⟩ = R at H ⊢
  have HH : Hid (Calls Try.prog 9 #[.agg #[.string table, .string column, .string o1, .string o2, .string o3, .bool false]] w fun e w' => e = .returned (.string R) ∧ Below w.heap.size w w') := H
  clear H
  go_enter Try.func6, Try.ntmps6
  go_wp2_with (go_at_call 9; refine HH.out.mono ?_; rintro e w1 ⟨rfl, hbel⟩)
  go_ret
  exact ⟨rfl, hbel⟩

set_option maxHeartbeats 1000000 in
theorem zzinsert_yes (table column o1 o2 o3 : ByteArray) (w : World) (ht : table.size ≤ 65536) (hc : column.size ≤ 65536) :
    Calls Try.prog 6 #[.string table, .string column, .string o1, .string o2, .string o3, .bool true] w fun e w' => e = .returned (.string (insertText table column ⟨#[44, 32, 100, 97, 121, 115, 95, 97, 100, 100, 101, 100]⟩ ⟨#[44, 32, 110, 117, 108, 108, 105, 102, 40, 36, 49, 48, 44, 32, 48, 41]⟩)) ∧ Below w.heap.size w w' := by
  have H := insert_yes table column o1 o2 o3 w ht hc
  generalize insertText table column ⟨#[44, 32, 100, 97, 121, 115, 95, 97, 100, 100, 101, 100]⟩ ⟨#[44, 32, 110, 117, 108, 108, 105, 102, 40, 36, 49, 48, 44, 32, 48, 41]⟩ = R at H ⊢
  have HH : Hid (Calls Try.prog 9 #[.agg #[.string table, .string column, .string o1, .string o2, .string o3, .bool true]] w fun e w' => e = .returned (.string R) ∧ Below w.heap.size w w') := H
  clear H
  go_enter Try.func6, Try.ntmps6
  go_wp2_with (go_at_call 9; refine HH.out.mono ?_; rintro e w1 ⟨rfl, hbel⟩)
  go_ret
  exact ⟨rfl, hbel⟩

end Go.Proofs.Qxb6617513a
