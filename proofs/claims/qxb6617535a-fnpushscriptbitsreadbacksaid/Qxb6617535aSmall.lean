/-
  Seat b6617535a. Contracts of the size guard (4), zzCloneWords (5) and zzBit (7).
-/
import Derived.Test.Qxb6617535aRows
import Derived.Test.Qxb6617535aPlain
import Derived.WalkKit
import Derived.WalkSpells
import Derived.WalkLawsBesides
namespace Go.Proofs.Qxb6617535a
open Go.RowKit

theorem Try.info29 : (Try.prog.info? 29).map (fun i => (i.zero, i.size, i.bytes)) = some (some (.int .u64 0), 1, 8) := by kernel_rfl

/-- The call has answered some bool. -/
def SomeBool (e : Ending) : Prop := ∃ r : Bool, e = .returned (.bool r)
theorem someBool_mk (r : Bool) : SomeBool (.returned (.bool r)) := ⟨r, rfl⟩

set_option maxHeartbeats 1000000 in
theorem bytes_any (a0 a2 : Option Addr) (l0 c0 l2 c2 : Nat) (d : Int) (w : World) (h0 : l0 ≤ 9223372036854775807) (h2 : l2 ≤ 9223372036854775807) :
    Calls Try.prog 4 #[.slice a0 l0 c0, .int .i64 d, .slice a2 l2 c2] w fun e w' => SomeBool e ∧ w' = w := by
  go_enter Try.func4, Try.ntmps4
  go_wp2
  all_goals go_ret
  all_goals exact ⟨someBool_mk _, rfl⟩

/-- Words as cells. -/
def wcs (l : List Int) : List Value := l.map (Value.int .u64)
theorem wcs_length (l : List Int) : (wcs l).length = l.length := by simp [wcs]
theorem wcs_set (l : List Int) (j : Nat) (x : Int) : (wcs l).set j (.int .u64 x) = wcs (l.set j x) := by simp [wcs, List.map_set]
theorem wcs_snoc (l : List Int) (x : Int) : wcs l ++ [.int .u64 x] = wcs (l ++ [x]) := by simp [wcs]
theorem wcs_at (l : List Int) (j : Nat) (h : j < l.length) : (wcs l)[j]? = some (.int .u64 (l.getD j 0)) := by simp [wcs, List.getD, h]

set_option maxHeartbeats 1000000 in
theorem clone_nil (cap : Nat) (w : World) :
    Calls Try.prog 5 #[.slice none 0 cap] w fun e w' => e = .returned (.slice none 0 0) ∧ w' = w := by
  have hnn := fun w n c => Lib.run_eql_slice_nil (P := Try.prog) w 22 29 none n c 0 0 Try.underlying22
  go_enter Try.func5, Try.ntmps5
  go_wp2
  go_ret
  exact ⟨rfl, rfl⟩

/-- The copy half made: the first k words are there. -/
def half (ws : List Int) (k : Nat) : List Int := ws.take k ++ List.replicate (ws.length - k) 0
theorem half_zero (ws : List Int) : half ws 0 = List.replicate ws.length 0 := by simp [half]
theorem half_all (ws : List Int) : half ws ws.length = ws := by simp [half]
theorem half_set (ws : List Int) (k : Nat) (h : k < ws.length) : (half ws k).set k (ws.getD k 0) = half ws (k + 1) := by
  have e : ws.getD k 0 = ws[k] := by simp [List.getD, h]
  obtain ⟨r, hr⟩ : ∃ r, ws.length - k = r + 1 := ⟨ws.length - k - 1, by omega⟩
  unfold half
  rw [e, List.set_append_right _ _ (by simp; omega), hr, List.replicate_succ, show ws.length - (k + 1) = r from by omega]
  have : k - (List.take k ws).length = 0 := by simp; omega
  rw [this, List.set_cons_zero, List.take_succ_eq_append_getElem h, List.append_assoc]
  rfl

set_option maxHeartbeats 1000000 in
theorem clone_some (b off n cap : Nat) (ws : List Int) (w : World) (hb : b < w.heap.size) (hl : ws.length = n) (h1 : 1 ≤ n) (hn : n ≤ 1048576)
    (hcell : ∀ j, j < n → w.cell? ⟨b, off + j, none⟩ = some (.int .u64 (ws.getD j 0))) :
    Calls Try.prog 5 #[.slice (some ⟨b, off, none⟩) n cap] w fun e w' => e = .returned (.slice (some ⟨w.heap.size, 0, none⟩) n n) ∧
      w'.ownsRow w.heap.size 29 1 (.slice (some ⟨w.heap.size, 0, none⟩) n n) n (wcs ws) ∧ Below w.heap.size w w' := by
  obtain ⟨i0, hi, hz0, hz1, hz2⟩ := info_parts Try.info29
  have HC : Hid (∀ j, j < n → w.cell? ⟨b, off + j, none⟩ = some (.int .u64 (ws.getD j 0))) := hcell
  have HL : Hid (ws.length = n) := hl
  have hnn := fun w n c => Lib.run_eql_slice_nil (P := Try.prog) w 22 29 (some ⟨b, off, none⟩) n c 0 0 Try.underlying22
  clear hcell hl
  go_enter Try.func5, Try.ntmps5
  go_wp2_with (at_make; refine wpList_make_full _ rfl _ _ 22 rfl w.heap.size 29 i0 (.int .u64 0) 1 Try.underlying22 hi hz0 hz1 _ _ _ _ n rfl rfl (by omega) (by omega) (by rw [hz2]; omega) (by unfold maxLen; omega) (Nat.le_refl _) ?_)
  intro w1 hown1 hgrow1
  have HB1 : Hid (Below w.heap.size w w1) := (Below.refl _ _).grown hgrow1 (Nat.le_refl _) (fun j hj => by cases hj)
  have HO1 : Hid (w1.ownsRow w.heap.size 29 1 (.slice (some ⟨w.heap.size, 0, none⟩) n n) n (wcs (half ws 0))) := by
    have e : (madeCells #[Value.int .u64 0] n).toList = wcs (half ws 0) := by
      rw [half_zero, HL.out, toList_madeCells_one]
      simp [wcs]
    rw [e] at hown1
    exact hown1
  clear hown1 hgrow1 hnn
  go_wp2
  go_loopw [4] (fun i wr => ∃ k : Nat, k ≤ n ∧ i = .int .i64 k ∧ Hid (wr.ownsRow w.heap.size 29 1 (.slice (some ⟨w.heap.size, 0, none⟩) n n) n (wcs (half ws k))) ∧ Hid (Below w.heap.size w wr)) (fun i _ => n - (intOf i).toNat)
  case atStart => exact ⟨0, Nat.zero_le _, rfl, HO1, HB1⟩
  case round =>
    obtain ⟨k, hk, rfl, Ho, Hb⟩ := hrel
    by_cases hlt : k < n
    · obtain ⟨x, hx⟩ : ∃ x, x = ws.getD k 0 := ⟨_, rfl⟩
      have hc : wr.cell? ⟨b, off + k, none⟩ = some (.int .u64 x) := by rw [hx]; exact (Hb.out.cell (by exact hb)).trans (HC.out k hlt)
      have hfr : wr.frozen? ⟨w.heap.size, k, none⟩ = false := Ho.out.frozenAt k
      have hold : ∃ v0, wr.cell? ⟨w.heap.size, k, none⟩ = some v0 := by
        have h := Ho.out.cellAt k (by omega)
        have hlen := Ho.out.1
        rw [h]
        exact ⟨_, List.getElem?_eq_getElem (by rw [hlen]; omega)⟩
      obtain ⟨v0, hv0⟩ := hold
      have Hst : Hid ((wr.setCell ⟨w.heap.size, k, none⟩ (.int .u64 x)).ownsRow w.heap.size 29 1 (.slice (some ⟨w.heap.size, 0, none⟩) n n) n (wcs (half ws (k + 1)))) := by
        have h := (Ho.out.stored k (.int .u64 x)).1
        rw [wcs_set, hx, half_set ws k (by rw [HL.out]; exact hlt), ← hx] at h
        exact h
      have Hbt : Hid (Below w.heap.size w (wr.setCell ⟨w.heap.size, k, none⟩ (.int .u64 x))) := Hb.out.setCell (Nat.le_refl _) _
      clear hx
      go_wp2
      go_roundw
      case rel => exact ⟨k + 1, by omega, by go_num, Hst, Hbt⟩
      case measure => simp [intOf]; omega
    · have hkn : n = k := by omega
      subst hkn
      go_wp2
      go_ret
      refine ⟨rfl, ?_, Hb.out⟩
      have h := Ho.out
      rw [← HL.out, half_all] at h
      rw [← HL.out]
      exact h

set_option maxHeartbeats 1000000 in
theorem clone_empty (ad : Addr) (cap : Nat) (w : World) :
    Calls Try.prog 5 #[.slice (some ad) 0 cap] w fun e w' => e = .returned (.slice (some ⟨w.heap.size, 0, none⟩) 0 0) ∧
      w'.ownsRow w.heap.size 29 1 (.slice (some ⟨w.heap.size, 0, none⟩) 0 0) 0 (wcs []) ∧ Below w.heap.size w w' := by
  obtain ⟨i0, hi, hz0, hz1, hz2⟩ := info_parts Try.info29
  have hnn := fun w n c => Lib.run_eql_slice_nil (P := Try.prog) w 22 29 (some ad) n c 0 0 Try.underlying22
  go_enter Try.func5, Try.ntmps5
  go_wp2_with (at_make; refine wpList_make_full _ rfl _ _ 22 rfl w.heap.size 29 i0 (.int .u64 0) 1 Try.underlying22 hi hz0 hz1 _ _ _ _ 0 rfl rfl (by omega) (by omega) (by rw [hz2]; omega) (by unfold maxLen; omega) (Nat.le_refl _) ?_)
  intro w1 hown1 hgrow1
  have HB1 : Hid (Below w.heap.size w w1) := (Below.refl _ _).grown hgrow1 (Nat.le_refl _) (fun j hj => by cases hj)
  have HO1 : Hid (w1.ownsRow w.heap.size 29 1 (.slice (some ⟨w.heap.size, 0, none⟩) 0 0) 0 (wcs [])) := by
    have e : (madeCells #[Value.int .u64 0] 0).toList = wcs [] := by rw [toList_madeCells_one]; simp [wcs]
    rw [e] at hown1
    exact hown1
  clear hown1 hgrow1 hnn
  go_wp2
  refine wp_loop_rounds 1 ?_
  rw [rounds_succ]
  go_wp2
  go_ret
  exact ⟨rfl, HO1.out, HB1.out⟩

theorem and_one_bit (x : Int) (k : Nat) (h0 : 0 ≤ x) (h1 : x < 18446744073709551616) : (bits .and .u64 (x / 2 ^ k) 1 == 1) = bitW x k := by
  obtain ⟨n, rfl⟩ := Int.eq_ofNat_of_zero_le h0
  have hn : n / 2 ^ k < 18446744073709551616 := Nat.lt_of_le_of_lt (Nat.div_le_self _ _) (by omega)
  have e : ((n : Int) / 2 ^ k) = ((n / 2 ^ k : Nat) : Int) := by simp
  have e1 : (1 : Int) = ((1 : Nat) : Int) := rfl
  rw [e, e1, u64_and_nat _ _ hn (by omega), nat_mask1, bitW, Int.toNat_natCast, Nat.testBit_eq_decide_div_mod_eq]
  by_cases h : n / 2 ^ k % 2 = 1
  · simp [h]
  · have : n / 2 ^ k % 2 = 0 := by omega
    simp [this]

set_option maxHeartbeats 1000000 in
theorem bit_any (g n cap p : Nat) (x : Int) (w : World) (hp : p ≤ 1000000000) (hlt : p / 64 < n) (hx0 : 0 ≤ x) (hx1 : x < 18446744073709551616)
    (hc : w.cell? ⟨g, p / 64, none⟩ = some (.int .u64 x)) :
    Calls Try.prog 7 #[.slice (some ⟨g, 0, none⟩) n cap, .int .i64 p] w fun e w' => e = .returned (.bool (bitW x (p % 64))) ∧ w' = w := by
  go_enter Try.func7, Try.ntmps7
  go_wp2
  go_ret
  exact ⟨by rw [← and_one_bit x (p % 64) hx0 hx1]; rfl, rfl⟩

end Go.Proofs.Qxb6617535a
