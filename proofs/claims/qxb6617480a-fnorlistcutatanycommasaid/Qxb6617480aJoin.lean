/-
  Seat b6617480a. The contract of 'joinWithComma' (function 6): it answers the parts joined by ", ", in new memory alone.
-/
import Derived.Test.Qxb6617480aRows
import Derived.WalkKit
import Derived.WalkSpells
import Derived.WalkLawsBesides
import Derived.Laws.IdiomStrings
namespace Go.Proofs.Qxb6617480a
open Go.RowKit

theorem Try.info5 : (Try.prog.info? 5).map (fun i => (i.zero, i.size, i.bytes)) = some (some (.int .u8 0), 1, 1) := by kernel_rfl

/-- Bytes as cells. -/
def bcs (l : List UInt8) : List Value := l.map fun c => .int .u8 (c.toNat : Int)
theorem bcs_append (a b : List UInt8) : bcs (a ++ b) = bcs a ++ bcs b := by simp [bcs]
theorem bcs_length (a : List UInt8) : (bcs a).length = a.length := by simp [bcs]
theorem bcs_oneCell (l : List UInt8) : ∀ u ∈ bcs l, u.oneCell' = true := by
  intro u hu
  obtain ⟨_, _, rfl⟩ := List.mem_map.1 hu
  rfl

theorem take_snoc (s : ByteArray) (k : Nat) (h : k < s.size) : s.data.toList.take (k + 1) = s.data.toList.take k ++ [s[k]] := by
  rw [List.take_succ_eq_append_getElem (by simpa using h)]; rfl

theorem owns_bytes {w : World} {g base cap : Nat} {l : List UInt8} (h : w.ownsRow base 5 1 (.slice (some ⟨g, 0, none⟩) l.length cap) l.length (bcs l)) :
    ∀ j (hj : j < l.length), w.cell? ((⟨g, 0, none⟩ : Addr).add j) = some (.int .u8 (l[j].toNat : Int)) := by
  intro j hj
  refine h.cells (g := g) rfl j _ ?_
  simp [bcs, List.getElem?_eq_getElem hj]

set_option maxHeartbeats 1000000 in
theorem joinC_walk (b off n cap : Nat) (ss : List ByteArray) (J : Nat → List UInt8) (w : World) (hb : b < w.heap.size) (hn : n ≤ 1048576)
    (hcell : ∀ j, j < n → w.cell? ⟨b, off + j, none⟩ = some (.string (ss.getD j ByteArray.empty)))
    (hJ0 : J 0 = []) (hJ1 : 0 < n → J 1 = (ss.getD 0 ByteArray.empty).data.toList)
    (hJs : ∀ k, 0 < k → k < n → J (k + 1) = J k ++ [44, 32] ++ (ss.getD k ByteArray.empty).data.toList)
    (hJl : (J n).length ≤ 1073741824) (hJm : ∀ k, k ≤ n → (J k).length ≤ (J n).length) :
    Calls Try.prog 6 #[.slice (some ⟨b, off, none⟩) n cap] w fun e w' => e = .returned (.string ⟨(J n).toArray⟩) ∧ Below w.heap.size w w' := by
  obtain ⟨i0, hi, hz0, hz1, hz2⟩ := info_parts Try.info5
  have HC : Hid (∀ j, j < n → w.cell? ⟨b, off + j, none⟩ = some (.string (ss.getD j ByteArray.empty))) := hcell
  have H0 : Hid (J 0 = []) := hJ0
  have H1 : Hid (0 < n → J 1 = (ss.getD 0 ByteArray.empty).data.toList) := hJ1
  have HS : Hid (∀ k, 0 < k → k < n → J (k + 1) = J k ++ [44, 32] ++ (ss.getD k ByteArray.empty).data.toList) := hJs
  have HM : Hid (∀ k, k ≤ n → (J k).length ≤ (J n).length) := hJm
  clear hcell hJ0 hJ1 hJs hJm
  go_enter Try.func6, Try.ntmps6
  go_wp2
  go_loop [3, 4] (fun z i => ∃ k : Nat, k ≤ n ∧ i = .int .i64 k ∧ z = .int .i64 ((J k).length : Int)) (fun _ i => n - (intOf i).toNat)
  case atStart => exact ⟨0, Nat.zero_le _, rfl, by rw [H0.out]; rfl⟩
  case round =>
    obtain ⟨k, hk, rfl, rfl⟩ := hrel
    by_cases hlt : k < n
    · obtain ⟨s, hs⟩ : ∃ s, s = ss.getD k ByteArray.empty := ⟨_, rfl⟩
      have hc := HC.out k hlt
      have hm1 := HM.out (k + 1) hlt
      rw [← hs] at hc
      by_cases hk0 : k = 0
      · have hL : Hid ((J (k + 1)).length = s.size) := by
          show (J (k + 1)).length = s.size
          rw [hs, hk0]
          have := H1.out (by omega)
          simp [this]
        have hL0 : Hid ((J k).length = 0) := by show (J k).length = 0; rw [hk0, H0.out]; rfl
        have hsb : s.size ≤ 1073741824 := by have := hL.out; omega
        have hj0 : (J k).length ≤ 0 := by rw [hL0.out]; omega
        have hkp : ¬ (0 : Int) < (k : Int) := by omega
        clear hs hk0
        go_wp2
        go_round
        case rel => exact ⟨k + 1, by omega, by go_num, by rw [hL.out]; have := hL0.out; go_num⟩
        case measure => simp [intOf]; omega
      · have hL : Hid ((J (k + 1)).length = (J k).length + 2 + s.size) := by
          show (J (k + 1)).length = _
          rw [hs]
          have := HS.out k (by omega) hlt
          simp [this]; omega
        have hsb : (J k).length + 2 + s.size ≤ 1073741824 := by have := hL.out; omega
        have hkp : (0 : Int) < (k : Int) := by omega
        clear hs
        go_wp2
        go_round
        case rel => exact ⟨k + 1, by omega, by go_num, by rw [hL.out]; go_num⟩
        case measure => simp [intOf]; omega
    · have hkn : n = k := by omega
      subst hkn
      go_wp2_with (at_make; refine wpList_make_own _ rfl _ _ 25 rfl w.heap.size 5 i0 (.int .u8 0) 1 Try.underlying25 hi hz0 hz1 _ _ _ (J n).length rfl rfl (by omega) (by rw [hz2]; omega) (by unfold maxLen; omega) (Nat.le_refl _) ?_)
      intro w1 hown1 hgrow1
      have hbel1 : Below w.heap.size w w1 := (Below.refl _ _).grown hgrow1 (Nat.le_refl _) (fun j hj => by cases hj)
      have hown1' : w1.ownsRow w.heap.size 5 1 (.slice (some ⟨w.heap.size, 0, none⟩) (J 0).length (J n).length) (J 0).length (bcs (J 0)) := by rw [H0.out]; exact hown1
      have HO : Hid (w1.ownsRow w.heap.size 5 1 (.slice (some ⟨w.heap.size, 0, none⟩) (J 0).length (J n).length) (J 0).length (bcs (J 0))) := hown1'
      have HB : Hid (Below w.heap.size w w1) := hbel1
      have hJ00 : Hid ((J 0).length = 0) := by show (J 0).length = 0; rw [H0.out]; rfl
      clear hown1 hgrow1 hown1' hbel1 hlt hk
      go_wp2
      go_loopw [5, 6] (fun v i wr => ∃ k q : Nat, k ≤ n ∧ i = .int .i64 k ∧ v = .slice (some ⟨w.heap.size, 0, none⟩) q (J n).length ∧ Hid (q = (J k).length) ∧ Hid (wr.ownsRow w.heap.size 5 1 (.slice (some ⟨w.heap.size, 0, none⟩) (J k).length (J n).length) (J k).length (bcs (J k))) ∧ Hid (Below w.heap.size w wr)) (fun _ i _ => n - (intOf i).toNat)
      case atStart => exact ⟨0, 0, Nat.zero_le _, rfl, rfl, hJ00.out.symm, HO, HB⟩
      case round =>
        obtain ⟨k, q, hk, rfl, rfl, Hq, Ho, Hb⟩ := hrel
        by_cases hlt : k < n
        · obtain ⟨s, hs⟩ : ∃ s, s = ss.getD k ByteArray.empty := ⟨_, rfl⟩
          have hc := HC.out k hlt
          have hm1 := HM.out (k + 1) hlt
          rw [← hs] at hc
          have hcr : wr.cell? ⟨b, off + k, none⟩ = some (.string s) := (Hb.out.cell (by exact hb)).trans hc
          clear hc
          by_cases hk0 : k = 0
          · have hJk : Hid (J (k + 1) = J k ++ s.data.toList) := by show J (k + 1) = _; rw [hs, hk0, H0.out]; exact H1.out (by omega)
            have hJkl : (J (k + 1)).length = q + s.size := by rw [hJk.out, Hq.out]; simp
            have hcap2 : q + s.size ≤ (J n).length := by omega
            have hkp : ¬ (0 : Int) < (k : Int) := by omega
            have Hq2 : Hid (q = (J k).length) := Hq
            have Ho2 := Ho
            have Hb2 := Hb
            clear hs hJkl hm1 hk0 Ho
            go_wp2
            go_loopw [5, 8] (fun v j wq => ∃ m q2 : Nat, m ≤ s.size ∧ j = .int .i64 m ∧ v = .slice (some ⟨w.heap.size, 0, none⟩) q2 (J n).length ∧ q2 ≤ q + m ∧ Hid (q2 = (J k ++ s.data.toList.take m).length) ∧ Hid (wq.ownsRow w.heap.size 5 1 (.slice (some ⟨w.heap.size, 0, none⟩) (J k ++ s.data.toList.take m).length (J n).length) (J k ++ s.data.toList.take m).length (bcs (J k ++ s.data.toList.take m))) ∧ Hid (Below w.heap.size w wq)) (fun _ j _ => s.size - (intOf j).toNat)
            case atStart => exact ⟨0, _, Nat.zero_le _, rfl, rfl, by omega, by rw [List.take_zero, List.append_nil]; exact Hq2.out, by rw [List.take_zero, List.append_nil]; exact Ho2.out, Hb2⟩
            case round =>
              obtain ⟨m, q2, hm, rfl, rfl, hq2, Hq3, Ho3, Hb3⟩ := hrel
              by_cases hmlt : m < s.size
              · have hts : Hid (s.data.toList.take (m + 1) = s.data.toList.take m ++ [s[m]]) := take_snoc s m hmlt
                have hwsz3 := Hb3.out.size
                go_wp2_with (at_builtin; refine wpList_append_fits _ rfl (.tmp 49) (.tmp 53) 25 rfl w.heap.size 5 i0 1 Try.underlying25 hi hz1 w.heap.size q2 (J n).length (bcs (J k ++ s.data.toList.take m)) rfl (by rw [Hq3.out]; exact Ho3.out.alloc _) ⟨wr.heap.size, 0, none⟩ 1 1 [.int .u8 (s[m].toNat : Int)] rfl rfl (cell_one_new _ _ _) (bcs_oneCell [s[m]]) (by omega) ?_)
                intro w5 hown5 hgrow5
                have Hb5 : Hid (Below w.heap.size w w5) := (Hb3.out.alloc hwsz3 _).grown hgrow5 (by simp; omega) (fun j hj => by cases hj; exact Nat.le_refl _)
                have Ho5 : Hid (w5.ownsRow w.heap.size 5 1 (.slice (some ⟨w.heap.size, 0, none⟩) (J k ++ s.data.toList.take (m + 1)).length (J n).length) (J k ++ s.data.toList.take (m + 1)).length (bcs (J k ++ s.data.toList.take (m + 1)))) := by
                  have e1 : J k ++ s.data.toList.take (m + 1) = (J k ++ s.data.toList.take m) ++ [s[m]] := by rw [hts.out, ← List.append_assoc]
                  have e2 : ((J k ++ s.data.toList.take m) ++ [s[m]]).length = q2 + 1 := by rw [List.length_append, ← Hq3.out]; rfl
                  show w5.ownsRow _ _ _ _ _ _
                  rw [e1, e2, bcs_append]
                  exact hown5
                have Hq5 : Hid (q2 + 1 = (J k ++ s.data.toList.take (m + 1)).length) := by
                  show q2 + 1 = _
                  rw [hts.out, ← List.append_assoc, List.length_append, ← Hq3.out]; rfl
                clear hown5 hgrow5 Ho3
                go_wp2
                go_roundw
                case rel => exact ⟨m + 1, q2 + 1, by omega, by go_num, rfl, by omega, Hq5, Ho5, Hb5⟩
                case measure => simp [intOf]; omega
              · have hme : m = s.size := by omega
                have hall : s.data.toList.take m = s.data.toList := List.take_of_length_le (by simp; omega)
                have eJ : J k ++ s.data.toList.take m = J (k + 1) := by rw [hall, hJk.out]
                have Hq6 : Hid (q2 = (J (k + 1)).length) := by have := Hq3.out; rw [eJ] at this; exact this
                have Ho6 : Hid (wr.ownsRow w.heap.size 5 1 (.slice (some ⟨w.heap.size, 0, none⟩) (J (k + 1)).length (J n).length) (J (k + 1)).length (bcs (J (k + 1)))) := by have := Ho3.out; rw [eJ] at this; exact this
                clear Ho3 Hq3 hall eJ
                go_wp2
                go_roundw
                case rel => exact ⟨k + 1, q2, by omega, by go_num, rfl, Hq6, Ho6, Hb3⟩
                case measure => simp [intOf]; omega
          · have hJk : Hid (J (k + 1) = J k ++ [44, 32] ++ s.data.toList) := by show J (k + 1) = _; rw [hs]; exact HS.out k (by omega) hlt
            have hJkl : (J (k + 1)).length = q + 2 + s.size := by rw [hJk.out, Hq.out]; simp; omega
            have hcap2 : q + 2 + s.size ≤ (J n).length := by omega
            have hkp : (0 : Int) < (k : Int) := by omega
            have hwsz := Hb.out.size
            clear hs hJkl hm1
            go_wp2_with (at_builtin; refine wpList_append_fits _ rfl (.tmp 36) (.tmp 37) 25 rfl w.heap.size 5 i0 1 Try.underlying25 hi hz1 w.heap.size q (J n).length (bcs (J k)) rfl (by rw [Hq.out]; exact Ho.out.alloc _) ⟨wr.heap.size, 0, none⟩ 2 2 [.int .u8 44, .int .u8 32] rfl rfl (cell_two_new _ _ _ _) (bcs_oneCell [44, 32]) (by omega) ?_)
            intro w3 hown3 hgrow3
            have Hb2 : Hid (Below w.heap.size w w3) := (Hb.out.alloc hwsz _).grown hgrow3 (by simp; omega) (fun j hj => by cases hj; exact Nat.le_refl _)
            have Ho2 : Hid (w3.ownsRow w.heap.size 5 1 (.slice (some ⟨w.heap.size, 0, none⟩) (J k ++ [44, 32]).length (J n).length) (J k ++ [44, 32]).length (bcs (J k ++ [44, 32]))) := by
              have e2 : (J k ++ [44, 32]).length = q + 2 := by rw [Hq.out]; simp
              show w3.ownsRow _ _ _ _ _ _
              rw [e2, bcs_append]
              exact hown3
            have Hq2 : Hid (q + 2 = (J k ++ [44, 32]).length) := by
              show q + 2 = _
              rw [Hq.out]; simp
            have hcr3 : w3.cell? ⟨b, off + k, none⟩ = some (.string s) := (Hb2.out.cell (by exact hb)).trans (by rw [← Hb.out.cell (by exact hb)]; exact hcr)
            obtain ⟨Pre, hPre⟩ : ∃ Pre, Pre = J k ++ [44, 32] := ⟨_, rfl⟩
            rw [← hPre] at Ho2 Hq2 hJk
            clear hown3 hgrow3 Ho hcr hPre
            go_wp2
            go_loopw [5, 8] (fun v j wq => ∃ m q2 : Nat, m ≤ s.size ∧ j = .int .i64 m ∧ v = .slice (some ⟨w.heap.size, 0, none⟩) q2 (J n).length ∧ q2 ≤ q + 2 + m ∧ Hid (q2 = (Pre ++ s.data.toList.take m).length) ∧ Hid (wq.ownsRow w.heap.size 5 1 (.slice (some ⟨w.heap.size, 0, none⟩) (Pre ++ s.data.toList.take m).length (J n).length) (Pre ++ s.data.toList.take m).length (bcs (Pre ++ s.data.toList.take m))) ∧ Hid (Below w.heap.size w wq)) (fun _ j _ => s.size - (intOf j).toNat)
            case atStart => exact ⟨0, _, Nat.zero_le _, rfl, rfl, by omega, by rw [List.take_zero, List.append_nil]; exact Hq2.out, by rw [List.take_zero, List.append_nil]; exact Ho2.out, Hb2⟩
            case round =>
              obtain ⟨m, q2, hm, rfl, rfl, hq2, Hq3, Ho3, Hb3⟩ := hrel
              by_cases hmlt : m < s.size
              · have hts : Hid (s.data.toList.take (m + 1) = s.data.toList.take m ++ [s[m]]) := take_snoc s m hmlt
                have hwsz3 := Hb3.out.size
                go_wp2_with (at_builtin; refine wpList_append_fits _ rfl (.tmp 49) (.tmp 53) 25 rfl w.heap.size 5 i0 1 Try.underlying25 hi hz1 w.heap.size q2 (J n).length (bcs (Pre ++ s.data.toList.take m)) rfl (by rw [Hq3.out]; exact Ho3.out.alloc _) ⟨wr.heap.size, 0, none⟩ 1 1 [.int .u8 (s[m].toNat : Int)] rfl rfl (cell_one_new _ _ _) (bcs_oneCell [s[m]]) (by omega) ?_)
                intro w5 hown5 hgrow5
                have Hb5 : Hid (Below w.heap.size w w5) := (Hb3.out.alloc hwsz3 _).grown hgrow5 (by simp; omega) (fun j hj => by cases hj; exact Nat.le_refl _)
                have Ho5 : Hid (w5.ownsRow w.heap.size 5 1 (.slice (some ⟨w.heap.size, 0, none⟩) (Pre ++ s.data.toList.take (m + 1)).length (J n).length) (Pre ++ s.data.toList.take (m + 1)).length (bcs (Pre ++ s.data.toList.take (m + 1)))) := by
                  have e1 : Pre ++ s.data.toList.take (m + 1) = (Pre ++ s.data.toList.take m) ++ [s[m]] := by rw [hts.out, ← List.append_assoc]
                  have e2 : ((Pre ++ s.data.toList.take m) ++ [s[m]]).length = q2 + 1 := by rw [List.length_append, ← Hq3.out]; rfl
                  show w5.ownsRow _ _ _ _ _ _
                  rw [e1, e2, bcs_append]
                  exact hown5
                have Hq5 : Hid (q2 + 1 = (Pre ++ s.data.toList.take (m + 1)).length) := by
                  show q2 + 1 = _
                  rw [hts.out, ← List.append_assoc, List.length_append, ← Hq3.out]; rfl
                clear hown5 hgrow5 Ho3
                go_wp2
                go_roundw
                case rel => exact ⟨m + 1, q2 + 1, by omega, by go_num, rfl, by omega, Hq5, Ho5, Hb5⟩
                case measure => simp [intOf]; omega
              · have hme : m = s.size := by omega
                have hall : s.data.toList.take m = s.data.toList := List.take_of_length_le (by simp; omega)
                have eJ : Pre ++ s.data.toList.take m = J (k + 1) := by rw [hall, hJk.out]
                have Hq6 : Hid (q2 = (J (k + 1)).length) := by have := Hq3.out; rw [eJ] at this; exact this
                have Ho6 : Hid (wr.ownsRow w.heap.size 5 1 (.slice (some ⟨w.heap.size, 0, none⟩) (J (k + 1)).length (J n).length) (J (k + 1)).length (bcs (J (k + 1)))) := by have := Ho3.out; rw [eJ] at this; exact this
                clear Ho3 Hq3 hall eJ
                go_wp2
                go_roundw
                case rel => exact ⟨k + 1, q2, by omega, by go_num, rfl, Hq6, Ho6, Hb3⟩
                case measure => simp [intOf]; omega
        · have hkn : n = k := by omega
          subst hkn
          have hcv := run_convert_bytes_back (P := Try.prog) wr 25 9 5 ⟨w.heap.size, 0, none⟩ (J n).length (J n) Try.underlying25 Try.underlying5 Try.underlying9 (owns_bytes Ho.out)
          have hq : q = (J n).length := Hq.out
          subst hq
          go_wp2
          go_ret
          exact ⟨rfl, Hb.out⟩

end Go.Proofs.Qxb6617480a
