/-
  Seat b6617562a. The contract of the size guard (4): it answers some bool and leaves the world as it was.
-/
import Derived.Test.Qxb6617562aLoops
namespace Go.Proofs.Qxb6617562a
open Go.RowKit

set_option maxHeartbeats 4000000 in
set_option maxRecDepth 100000 in
theorem bytes_any (self : ByteArray) (known : Bool) (a2 a3 a4 a5 a6 : Option Addr) (l2 c2 l3 c3 l4 c4 l5 c5 l6 c6 : Nat) (s2 s3 s5 : Nat → ByteArray) (w : World)
    (r2 : SRow w a2 l2 s2) (r3 : SRow w a3 l3 s3) (r5 : SRow w a5 l5 s5) (h0 : self.size ≤ 9223372036854775807) (h2 : l2 ≤ 9223372036854775807) (h3 : l3 ≤ 9223372036854775807) (h4 : l4 ≤ 9223372036854775807) (h5 : l5 ≤ 9223372036854775807) (h6 : l6 ≤ 9223372036854775807) :
    Calls Try.prog 4 #[.string self, .bool known, .slice a2 l2 c2, .slice a3 l3 c3, .slice a4 l4 c4, .slice a5 l5 c5, .slice a6 l6 c6] w fun e w' => SomeBool e ∧ w' = w := by
  have R2 : Hid (SRow w a2 l2 s2) := r2
  have R3 : Hid (SRow w a3 l3 s3) := r3
  have R5 : Hid (SRow w a5 l5 s5) := r5
  clear r2 r3 r5
  go_enter Try.func4, Try.ntmps4
  by_cases b0 : (1048576 : Int) < (self.size : Int)
  · go_wp2
    go_ret
    exact ⟨someBool_mk _, rfl⟩
  by_cases b2 : (1048576 : Int) < (l2 : Int)
  · go_wp2
    go_ret
    exact ⟨someBool_mk _, rfl⟩
  by_cases b2' : (1048576 : Int) < (self.size : Int) + (l2 : Int)
  · go_wp2
    go_ret
    exact ⟨someBool_mk _, rfl⟩
  go_wp2
  go_loop [15, 16] (fun n i => ∃ (k : Nat) (z : Int), k ≤ l2 ∧ i = .int .i64 k ∧ 0 ≤ z ∧ z ≤ 1048576 ∧ n = .int .i64 z) (fun _ i => l2 - (intOf i).toNat)
  case atStart => exact ⟨0, (self.size : Int) + l2, Nat.zero_le _, rfl, by omega, by omega, rfl⟩
  case round =>
    obtain ⟨k, z, hk, rfl, hz0, hz1, rfl⟩ := hrel
    by_cases hlt : k < l2
    · obtain ⟨b, o, rfl, hb, hc, hsz⟩ := R2.out k hlt
      obtain ⟨s, hs⟩ : ∃ s, s = s2 k := ⟨_, rfl⟩
      rw [← hs] at hc hsz
      clear hs
      go_wp2
      · go_ret
        exact ⟨someBool_mk _, rfl⟩
      · go_ret
        exact ⟨someBool_mk _, rfl⟩
      · go_round
        case rel => exact ⟨k + 1, z + s.size, by omega, by go_num, by omega, by omega, by go_num⟩
        case measure => simp [intOf]; omega
    · clear hk b2'
      by_cases b3 : (1048576 : Int) < (l3 : Int)
      · go_wp2
        go_ret
        exact ⟨someBool_mk _, rfl⟩
      by_cases b3' : (1048576 : Int) < z + (l3 : Int)
      · go_wp2
        go_ret
        exact ⟨someBool_mk _, rfl⟩
      go_wp2
      go_loop [15, 17] (fun n i => ∃ (k : Nat) (z : Int), k ≤ l3 ∧ i = .int .i64 k ∧ 0 ≤ z ∧ z ≤ 1048576 ∧ n = .int .i64 z) (fun _ i => l3 - (intOf i).toNat)
      case atStart => exact ⟨0, z + l3, Nat.zero_le _, rfl, by omega, by omega, rfl⟩
      case round =>
        obtain ⟨k3, z3, hk3, rfl, hz30, hz31, rfl⟩ := hrel
        by_cases hltk3 : k3 < l3
        · obtain ⟨b, o, rfl, hb, hc, hsz⟩ := R3.out k3 hltk3
          obtain ⟨s, hs⟩ : ∃ s, s = s3 k3 := ⟨_, rfl⟩
          rw [← hs] at hc hsz
          clear hs
          go_wp2
          · go_ret
            exact ⟨someBool_mk _, rfl⟩
          · go_ret
            exact ⟨someBool_mk _, rfl⟩
          · go_round
            case rel => exact ⟨k3 + 1, z3 + s.size, by omega, by go_num, by omega, by omega, by go_num⟩
            case measure => simp [intOf]; omega
        · clear hk3 b3' hz0 hz1
          by_cases b4 : (1048576 : Int) < (l4 : Int)
          · go_wp2
            go_ret
            exact ⟨someBool_mk _, rfl⟩
          by_cases b4' : (1048576 : Int) < z3 + (l4 : Int)
          · go_wp2
            go_ret
            exact ⟨someBool_mk _, rfl⟩
          by_cases b5 : (1048576 : Int) < (l5 : Int)
          · go_wp2
            go_ret
            exact ⟨someBool_mk _, rfl⟩
          by_cases b5' : (1048576 : Int) < z3 + (l4 : Int) + (l5 : Int)
          · go_wp2
            go_ret
            exact ⟨someBool_mk _, rfl⟩
          go_wp2
          go_loop [15, 18] (fun n i => ∃ (k : Nat) (z : Int), k ≤ l5 ∧ i = .int .i64 k ∧ 0 ≤ z ∧ z ≤ 1048576 ∧ n = .int .i64 z) (fun _ i => l5 - (intOf i).toNat)
          case atStart => exact ⟨0, z3 + l4 + l5, Nat.zero_le _, rfl, by omega, by omega, rfl⟩
          case round =>
            obtain ⟨k5, z5, hk5, rfl, hz50, hz51, rfl⟩ := hrel
            by_cases hltk5 : k5 < l5
            · obtain ⟨b, o, rfl, hb, hc, hsz⟩ := R5.out k5 hltk5
              obtain ⟨s, hs⟩ : ∃ s, s = s5 k5 := ⟨_, rfl⟩
              rw [← hs] at hc hsz
              clear hs
              go_wp2
              · go_ret
                exact ⟨someBool_mk _, rfl⟩
              · go_ret
                exact ⟨someBool_mk _, rfl⟩
              · go_round
                case rel => exact ⟨k5 + 1, z5 + s.size, by omega, by go_num, by omega, by omega, by go_num⟩
                case measure => simp [intOf]; omega
            · clear hk5 b5' b4' hz30 hz31
              by_cases b6 : (1048576 : Int) < (l6 : Int)
              · go_wp2
                go_ret
                exact ⟨someBool_mk _, rfl⟩
              by_cases b6' : (1048576 : Int) < z5 + (l6 : Int)
              · go_wp2
                go_ret
                exact ⟨someBool_mk _, rfl⟩
              go_wp2
              go_ret
              exact ⟨someBool_mk _, rfl⟩

end Go.Proofs.Qxb6617562a
