/-
  Seat b6617480a. The contract of the size guard 'zzBytes_FnOrListCutAtAnyComma' (function 4): it answers some bool and leaves the world as it was.
-/
import Derived.Test.Qxb6617480aRows
import Derived.WalkKit
import Derived.WalkSpells
import Derived.WalkLawsBesides
namespace Go.Proofs.Qxb6617480a
open Go.RowKit

/-- The call has answered some bool. -/
def SomeBool (e : Ending) : Prop := ∃ r : Bool, e = .returned (.bool r)
theorem someBool_mk (r : Bool) : SomeBool (.returned (.bool r)) := ⟨r, rfl⟩
/-- The call has answered some bool, and true only where each text is at most 1048576 bytes long. -/
def Guarded (ss : List ByteArray) (len : Nat) (e : Ending) : Prop := ∃ r : Bool, e = .returned (.bool r) ∧ (r = true → ∀ j, j < len → (ss.getD j ByteArray.empty).size ≤ 1048576)
theorem guarded_no (ss : List ByteArray) (len : Nat) : Guarded ss len (.returned (.bool false)) := ⟨false, rfl, fun h => by cases h⟩
theorem guarded_yes {ss : List ByteArray} {len : Nat} (h : ∀ j, j < len → (ss.getD j ByteArray.empty).size ≤ 1048576) : Guarded ss len (.returned (.bool true)) := ⟨true, rfl, fun _ => h⟩

set_option maxHeartbeats 400000 in
theorem bytes_some (b off len cap : Nat) (ss : List ByteArray) (x : Int) (w : World) (hlen : len ≤ 9223372036854775807)
    (hcell : ∀ j, j < len → w.cell? ⟨b, off + j, none⟩ = some (.string (ss.getD j ByteArray.empty))) (hsz : ∀ j, (ss.getD j ByteArray.empty).size ≤ 9223372036854775807) :
    Calls Try.prog 4 #[.slice (some ⟨b, off, none⟩) len cap, .int .i64 x] w fun e w' => Guarded ss len e ∧ w' = w := by
  by_cases hbig : (1048576 : Int) < (len : Int)
  · go_enter Try.func4, Try.ntmps4
    go_wp2
    go_ret
    exact ⟨guarded_no _ _, rfl⟩
  have HC : Hid (∀ j, j < len → w.cell? ⟨b, off + j, none⟩ = some (.string (ss.getD j ByteArray.empty))) := hcell
  have HS : Hid (∀ j, (ss.getD j ByteArray.empty).size ≤ 9223372036854775807) := hsz
  clear hcell hsz
  go_enter Try.func4, Try.ntmps4
  go_wp2
  go_loop [5, 6] (fun n i => ∃ (k : Nat) (z : Int), k ≤ len ∧ i = .int .i64 k ∧ 0 ≤ z ∧ z ≤ 1048576 ∧ n = .int .i64 z ∧ Hid (∀ j, j < k → (ss.getD j ByteArray.empty).size ≤ 1048576)) (fun _ i => len - (intOf i).toNat)
  case atStart => exact ⟨0, len, Nat.zero_le _, rfl, by omega, by omega, rfl, fun j hj => by omega⟩
  case round =>
    obtain ⟨k, z, hk, rfl, hz0, hz1, rfl, HA⟩ := hrel
    by_cases hlt : k < len
    · obtain ⟨s, hs⟩ : ∃ s, s = ss.getD k ByteArray.empty := ⟨_, rfl⟩
      have hc := HC.out k hlt
      have hss := HS.out k
      rw [← hs] at hc hss
      have Hs : Hid (s = ss.getD k ByteArray.empty) := hs
      clear hs
      go_wp2
      · go_ret
        exact ⟨guarded_no _ _, rfl⟩
      · go_ret
        exact ⟨guarded_no _ _, rfl⟩
      · have hle : (s.size : Int) ≤ 1048576 := by assumption
        go_round
        case rel =>
          refine ⟨k + 1, z + s.size, by omega, by go_num, by omega, by omega, by go_num, ?_⟩
          intro j hj
          by_cases e : j = k
          · rw [e, ← Hs.out]; omega
          · exact HA.out j (by omega)
        case measure => simp [intOf]; omega
    · go_wp2
      go_ret
      exact ⟨guarded_yes (fun j hj => HA.out j (by omega)), rfl⟩

set_option maxHeartbeats 400000 in
theorem bytes_none (a : Option Addr) (cap : Nat) (x : Int) (w : World) :
    Calls Try.prog 4 #[.slice a 0 cap, .int .i64 x] w fun e w' => SomeBool e ∧ w' = w := by
  go_enter Try.func4, Try.ntmps4
  go_wp2
  refine wp_loop_rounds 1 ?_
  rw [rounds_succ]
  go_wp2
  go_ret
  exact ⟨someBool_mk _, rfl⟩

end Go.Proofs.Qxb6617480a
