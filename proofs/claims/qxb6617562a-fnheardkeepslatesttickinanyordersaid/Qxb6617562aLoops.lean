/-
  Seat b6617562a. Contracts of the functions that only read: zzEligible (10), zzLatestTold (11), zzSameSeen (12), the size guard (4).
-/
import Derived.Test.Qxb6617562aTab
namespace Go.Proofs.Qxb6617562a
open Go.RowKit

/-- A slice of texts that can be read. -/
def SRow (w : World) (a : Option Addr) (n : Nat) (ss : Nat → ByteArray) : Prop :=
  ∀ j, j < n → ∃ b off, a = some ⟨b, off, none⟩ ∧ b < w.heap.size ∧ w.cell? ⟨b, off + j, none⟩ = some (.string (ss j)) ∧ (ss j).size ≤ 9223372036854775807
/-- A slice of ticks that can be read. -/
def IRow (w : World) (a : Option Addr) (n : Nat) (T : Nat → Int) : Prop :=
  ∀ j, j < n → ∃ b off, a = some ⟨b, off, none⟩ ∧ b < w.heap.size ∧ w.cell? ⟨b, off + j, none⟩ = some (.int .i64 (T j)) ∧ -9223372036854775808 ≤ T j ∧ T j ≤ 9223372036854775807

theorem SRow.below {w w' : World} {B : Nat} {a : Option Addr} {n : Nat} {ss : Nat → ByteArray} (h : SRow w a n ss) (hb : Below B w w') (hB : w.heap.size ≤ B) : SRow w' a n ss := by
  intro j hj
  obtain ⟨b, off, h1, h2, h3, h4⟩ := h j hj
  exact ⟨b, off, h1, Nat.lt_of_lt_of_le h2 hb.size, (hb.cell (by exact Nat.lt_of_lt_of_le h2 hB)).trans h3, h4⟩
theorem IRow.below {w w' : World} {B : Nat} {a : Option Addr} {n : Nat} {T : Nat → Int} (h : IRow w a n T) (hb : Below B w w') (hB : w.heap.size ≤ B) : IRow w' a n T := by
  intro j hj
  obtain ⟨b, off, h1, h2, h3, h4⟩ := h j hj
  exact ⟨b, off, h1, Nat.lt_of_lt_of_le h2 hb.size, (hb.cell (by exact Nat.lt_of_lt_of_le h2 hB)).trans h3, h4⟩
theorem SRow.take {w : World} {a : Option Addr} {n m : Nat} {ss : Nat → ByteArray} (h : SRow w a n ss) (hm : m ≤ n) : SRow w a m ss := fun j hj => h j (by omega)
theorem IRow.take {w : World} {a : Option Addr} {n m : Nat} {T : Nat → Int} (h : IRow w a n T) (hm : m ≤ n) : IRow w a m T := fun j hj => h j (by omega)

/-- A text as a name. -/
def nm (s : ByteArray) : List UInt8 := s.data.toList
theorem nm_eq {a b : ByteArray} (h : nm a = nm b) : a = b := ByteArray.ext (Array.toList_inj.1 h)

/-- The set of the first n names. -/
def heldSet (hs : Nat → ByteArray) : Nat → List UInt8 → Bool
  | 0 => fun _ => false
  | i + 1 => addK (heldSet hs i) (nm (hs i))
theorem heldSet_mono (hs : Nat → ByteArray) (l : List UInt8) (i n : Nat) (h : heldSet hs i l = true) (hn : i ≤ n) : heldSet hs n l = true := by
  induction n with
  | zero => obtain rfl : i = 0 := by omega
            exact h
  | succ n ih =>
    by_cases e : i = n + 1
    · rw [← e]; exact h
    · have := ih (by omega)
      simp [heldSet, addK, this]
/-- Does the name count? -/
def elig (self : ByteArray) (known : Bool) (hs : Nat → ByteArray) (n : Nat) (l : List UInt8) : Bool := !known && !decide (l = nm self) && heldSet hs n l

theorem str_yes {a b : ByteArray} (h : nm a = nm b) : (a.toList == b.toList) = true := by
  rw [ByteArray.toList_eq, ByteArray.toList_eq, beq_iff_eq]; exact h
theorem str_no {a b : ByteArray} (h : ¬ nm a = nm b) : (a.toList == b.toList) = false := by
  rw [ByteArray.toList_eq, ByteArray.toList_eq, beq_eq_false_iff_ne]; exact h

set_option maxHeartbeats 1000000 in
theorem eligible_any (k self : ByteArray) (known : Bool) (a : Option Addr) (n cap : Nat) (hs : Nat → ByteArray) (w : World) (hr : SRow w a n hs) (hn : n ≤ 9223372036854775807) :
    Calls Try.prog 10 #[.string k, .string self, .bool known, .slice a n cap] w fun e w' => e = .returned (.bool (elig self known hs n (nm k))) ∧ w' = w := by
  obtain ⟨r, hre⟩ : ∃ r, r = elig self known hs n (nm k) := ⟨_, rfl⟩
  rw [← hre]
  have HRe : Hid (r = elig self known hs n (nm k)) := hre
  have HR : Hid (SRow w a n hs) := hr
  clear hre hr
  cases known
  · by_cases hks : nm k = nm self
    · have hrf : r = false := by rw [HRe.out]; simp [elig, hks]
      subst hrf
      have hq := str_yes hks
      clear hks
      go_enter Try.func10, Try.ntmps10
      go_wp2
      go_ret
      exact ⟨rfl, rfl⟩
    · have hre : r = heldSet hs n (nm k) := by rw [HRe.out]; simp [elig, hks]
      have HRh : Hid (r = heldSet hs n (nm k)) := hre
      have hq := str_no hks
      clear hks hre
      go_enter Try.func10, Try.ntmps10
      go_wp2
      go_loop [9] (fun i => ∃ j : Nat, j ≤ n ∧ i = .int .i64 j ∧ Hid (heldSet hs j (nm k) = false)) (fun i => n - (intOf i).toNat)
      case atStart => exact ⟨0, Nat.zero_le _, rfl, rfl⟩
      case round =>
        obtain ⟨j, hj, rfl, HN⟩ := hrel
        by_cases hlt : j < n
        · obtain ⟨b, off, rfl, hb, hc, hsz⟩ := HR.out j hlt
          obtain ⟨s, hse⟩ : ∃ s, s = hs j := ⟨_, rfl⟩
          rw [← hse] at hc hsz
          by_cases he : nm s = nm k
          · have hrt : r = true := by
              rw [HRh.out]
              refine heldSet_mono hs (nm k) (j + 1) n ?_ hlt
              simp [heldSet, addK, ← he, hse]
            subst hrt
            have hq2 := str_yes he
            clear hse he
            go_wp2
            go_ret
            exact ⟨rfl, rfl⟩
          · have HN' : Hid (heldSet hs (j + 1) (nm k) = false) := by
              show heldSet hs (j + 1) (nm k) = false
              have : ¬ nm k = nm (hs j) := fun h => he (by rw [hse, h])
              simp [heldSet, addK, this, HN.out]
            have hq2 := str_no he
            clear hse he
            go_wp2
            go_round
            case rel => exact ⟨j + 1, by omega, by go_num, HN'⟩
            case measure => simp [intOf]; omega
        · have hrf : r = false := by
            have := HN.out
            rw [show j = n from by omega] at this
            rw [HRh.out, this]
          subst hrf
          go_wp2
          go_ret
          exact ⟨rfl, rfl⟩
  · have hrf : r = false := by rw [HRe.out]; simp [elig]
    subst hrf
    go_enter Try.func10, Try.ntmps10
    go_wp2
    go_ret
    exact ⟨rfl, rfl⟩

theorem told_step_yes (K : Nat → List UInt8) (T : Nat → Int) (k : List UInt8) (i : Nat) (h : K i = k) : told K T k (i + 1) = some (topOf (told K T k i) (T i)) := by simp [told, h]
theorem told_step_no (K : Nat → List UInt8) (T : Nat → Int) (k : List UInt8) (i : Nat) (h : ¬ K i = k) : told K T k (i + 1) = told K T k i := by simp [told, h]

set_option maxHeartbeats 1000000 in
theorem latest_any (k : ByteArray) (a1 a2 : Option Addr) (l1 c1 l2 c2 n : Nat) (ss : Nat → ByteArray) (T : Nat → Int) (w : World) (hs : SRow w a1 n ss) (ht : IRow w a2 n T) (hn : n ≤ 1000000) (h1 : n ≤ l1) (h2 : n ≤ l2) :
    Calls Try.prog 11 #[.string k, .slice a1 l1 c1, .slice a2 l2 c2, .int .i64 n] w fun e w' => e = .returned (.int .i64 ((told (fun i => nm (ss i)) T (nm k) n).getD 0)) ∧ w' = w := by
  obtain ⟨A, hA⟩ : ∃ A : Nat → Option Int, A = told (fun i => nm (ss i)) T (nm k) := ⟨_, rfl⟩
  rw [← hA]
  have HS : Hid (SRow w a1 n ss) := hs
  have HT : Hid (IRow w a2 n T) := ht
  have A0 : Hid (A 0 = none) := by show A 0 = none; rw [hA]; rfl
  have AY : Hid (∀ i, nm (ss i) = nm k → A (i + 1) = some (topOf (A i) (T i))) := by intro i h; rw [hA]; exact told_step_yes _ _ _ i h
  have AN : Hid (∀ i, ¬ nm (ss i) = nm k → A (i + 1) = A i) := by intro i h; rw [hA]; exact told_step_no _ _ _ i h
  clear hs ht hA
  go_enter Try.func11, Try.ntmps11
  go_wp2
  go_loop [9, 10, 11] (fun f b i => ∃ (j : Nat) (fo : Bool) (bo : Int), j ≤ n ∧ i = .int .i64 j ∧ f = .bool fo ∧ b = .int .i64 bo ∧ Hid (fo = (A j).isSome) ∧ Hid (bo = (A j).getD 0)) (fun _ _ i => n - (intOf i).toNat)
  case atStart => exact ⟨0, false, 0, Nat.zero_le _, rfl, rfl, rfl, by show false = _; rw [A0.out]; rfl, by show (0 : Int) = _; rw [A0.out]; rfl⟩
  case round =>
    obtain ⟨j, fo, bo, hj, rfl, rfl, rfl, HF, HB⟩ := hrel
    by_cases hlt : j < n
    · obtain ⟨b1, o1, rfl, hb1, hc1, hsz⟩ := HS.out j hlt
      obtain ⟨b2, o2, rfl, hb2, hc2, ht1, ht2⟩ := HT.out j hlt
      obtain ⟨s, hse⟩ : ∃ s, s = ss j := ⟨_, rfl⟩
      obtain ⟨t, hte⟩ : ∃ t, t = T j := ⟨_, rfl⟩
      rw [← hse] at hc1 hsz
      rw [← hte] at hc2 ht1 ht2
      by_cases he : nm s = nm k
      · have hA1 := AY.out j (by rw [← hse]; exact he)
        rw [← hte] at hA1
        have hq := str_yes he
        by_cases hnew : fo = false ∨ bo < t
        · have HA1 : Hid (A (j + 1) = some t) := by
            show A (j + 1) = some t
            rw [hA1]
            congr 1
            have hF := HF.out
            have hB := HB.out
            cases hAj : A j with
            | none => rfl
            | some x =>
              rw [hAj] at hF hB
              simp at hF hB
              rcases hnew with h | h
              · rw [hF] at h; cases h
              · rw [hB] at h; simp [topOf, h]
          clear hA1 hse hte he
          cases fo
          · clear hnew
            go_wp2
            go_round
            case rel => exact ⟨j + 1, true, t, by omega, by go_num, rfl, rfl, by show true = _; rw [HA1.out]; rfl, by show t = _; rw [HA1.out]; rfl⟩
            case measure => simp [intOf]; omega
          · have hlt2 : bo < t := by
              rcases hnew with h | h
              · cases h
              · exact h
            clear hnew
            go_wp2
            go_round
            case rel => exact ⟨j + 1, true, t, by omega, by go_num, rfl, rfl, by show true = _; rw [HA1.out]; rfl, by show t = _; rw [HA1.out]; rfl⟩
            case measure => simp [intOf]; omega
        · have hft : fo = true := by cases fo <;> simp_all
          have hnl : ¬ bo < t := fun h => hnew (.inr h)
          have HA1 : Hid (A (j + 1) = A j) := by
            show A (j + 1) = A j
            rw [hA1]
            have hF := HF.out
            have hB := HB.out
            rw [hft] at hF
            cases hAj : A j with
            | none => rw [hAj] at hF; simp at hF
            | some x =>
              rw [hAj] at hB
              simp at hB
              rw [hB] at hnl
              simp [topOf, hnl]
          subst hft
          clear hA1 hse hte he hnew
          go_wp2
          go_round
          case rel => exact ⟨j + 1, true, bo, by omega, by go_num, rfl, rfl, by show true = _; rw [HA1.out]; exact HF.out, by show bo = _; rw [HA1.out]; exact HB.out⟩
          case measure => simp [intOf]; omega
      · have HA1 : Hid (A (j + 1) = A j) := AN.out j (by rw [← hse]; exact he)
        have hq := str_no he
        clear hse hte he
        go_wp2
        go_round
        case rel => exact ⟨j + 1, fo, bo, by omega, by go_num, rfl, rfl, by show fo = _; rw [HA1.out]; exact HF.out, by show bo = _; rw [HA1.out]; exact HB.out⟩
        case measure => simp [intOf]; omega
    · have hjn : n = j := by omega
      subst hjn
      go_wp2
      go_ret
      exact ⟨by rw [← HB.out]; rfl, rfl⟩

set_option maxHeartbeats 2000000 in
theorem same_any (b1 b2 n1 n2 : Nat) (M : List UInt8 → Option Int) (a3 a5 : Option Addr) (l3 c3 m l5 c5 n : Nat) (so ss : Nat → ByteArray) (w : World) (t1 : Tab w b1 n1 M) (t2 : Tab w b2 n2 M) (hs3 : SRow w a3 m so) (hs5 : SRow w a5 n ss)
    (hm : m ≤ l3) (hn : n ≤ l5) (hm1 : m ≤ 1000000) (hn1 : n ≤ 1000000) (hin : ∀ i, i < m → ∃ x, M (nm (so i)) = some x) :
    Calls Try.prog 12 #[.map (some b1), .map (some b2), .slice a3 l3 c3, .int .i64 m, .slice a5 l5 c5, .int .i64 n] w fun e w' => e = .returned (.bool true) ∧ w' = w := by
  obtain ⟨z, z1, z2⟩ := t1.len2 t2
  have HS3 : Hid (SRow w a3 m so) := hs3
  have HS5 : Hid (SRow w a5 n ss) := hs5
  have HI : Hid (∀ i, i < m → ∃ x, M (nm (so i)) = some x) := hin
  have L1 : Hid (∀ s : ByteArray, s.size ≤ maxLen → (Instr.lookup 29 (.map (some b1)) (.string s) true).run Try.prog w = .ok (.tuple #[.int .i64 ((M (nm s)).getD 0), .bool (M (nm s)).isSome]) w) := fun s hs => t1.look s hs
  have L2 : Hid (∀ s : ByteArray, s.size ≤ maxLen → (Instr.lookup 29 (.map (some b2)) (.string s) true).run Try.prog w = .ok (.tuple #[.int .i64 ((M (nm s)).getD 0), .bool (M (nm s)).isSome]) w) := fun s hs => t2.look s hs
  clear hs3 hs5 hin t1 t2
  go_enter Try.func12, Try.ntmps12
  go_wp2
  clear z1 z2
  go_loop [13] (fun i => ∃ j : Nat, j ≤ m ∧ i = .int .i64 j) (fun i => m - (intOf i).toNat)
  case atStart => exact ⟨0, Nat.zero_le _, rfl⟩
  case round =>
    obtain ⟨j, hj, rfl⟩ := hrel
    by_cases hlt : j < m
    · obtain ⟨b, o, rfl, hb, hc, hsz⟩ := HS3.out j hlt
      obtain ⟨x, hx⟩ := HI.out j hlt
      obtain ⟨s, hse⟩ : ∃ s, s = so j := ⟨_, rfl⟩
      rw [← hse] at hc hsz hx
      have k1 := L1.out s hsz
      have k2 := L2.out s hsz
      rw [hx] at k1 k2
      simp only [Option.getD_some, Option.isSome_some] at k1 k2
      clear hse hx
      go_wp2
      go_round
      case rel => exact ⟨j + 1, by omega, by go_num⟩
      case measure => simp [intOf]; omega
    · go_wp2
      go_loop [19] (fun i => ∃ j : Nat, j ≤ n ∧ i = .int .i64 j) (fun i => n - (intOf i).toNat)
      case atStart => exact ⟨0, Nat.zero_le _, rfl⟩
      case round =>
        obtain ⟨j2, hj2, rfl⟩ := hrel
        by_cases hlt2 : j2 < n
        · obtain ⟨b, o, rfl, hb, hc, hsz⟩ := HS5.out j2 hlt2
          obtain ⟨s, hse⟩ : ∃ s, s = ss j2 := ⟨_, rfl⟩
          rw [← hse] at hc hsz
          have k1 := L1.out s hsz
          have k2 := L2.out s hsz
          generalize (M (nm s)).getD 0 = x at k1 k2
          generalize (M (nm s)).isSome = ok at k1 k2
          clear hse
          cases ok
          · go_wp2
            go_round
            case rel => exact ⟨j2 + 1, by omega, by go_num⟩
            case measure => simp [intOf]; omega
          · go_wp2
            go_round
            case rel => exact ⟨j2 + 1, by omega, by go_num⟩
            case measure => simp [intOf]; omega
        · go_wp2
          go_ret
          exact ⟨rfl, rfl⟩

/-- The call has answered some bool. -/
def SomeBool (e : Ending) : Prop := ∃ r : Bool, e = .returned (.bool r)
theorem someBool_mk (r : Bool) : SomeBool (.returned (.bool r)) := ⟨r, rfl⟩

end Go.Proofs.Qxb6617562a
