/-
  Seat b6617535a. The walk of the law itself (function 3), out of its callees' contracts.
-/
import Derived.Test.Qxb6617535aPush
namespace Go.Proofs.Qxb6617535a
open Go.RowKit

/-- A row of words that can be read: where it holds something its cells are known. -/
def Row (w : World) (a : Option Addr) (n : Nat) (ws : List Int) : Prop :=
  ws.length = n ∧ (0 < n → ∃ b off, a = some ⟨b, off, none⟩ ∧ b < w.heap.size ∧ ∀ j, j < n → w.cell? ⟨b, off + j, none⟩ = some (.int .u64 (ws.getD j 0)))

/-- What a clone hands back: the same words, owned, in new memory. -/
def Cloned (w : World) (n : Nat) (ws : List Int) (e : Ending) (w' : World) : Prop :=
  ∃ ao cp, e = .returned (.slice ao n cp) ∧ w'.ownsRow w.heap.size 29 1 (.slice ao n cp) n (wcs ws) ∧ Below w.heap.size w w'

theorem clone_any (a : Option Addr) (n cap : Nat) (ws : List Int) (w : World) (hr : Row w a n ws) (hn : n ≤ 1048576) (h0 : a = none → n = 0) :
    Calls Try.prog 5 #[.slice a n cap] w fun e w' => Cloned w n ws e w' := by
  obtain ⟨hl, hr⟩ := hr
  by_cases h : n = 0
  · subst h
    obtain rfl : ws = [] := List.eq_nil_of_length_eq_zero hl
    cases a with
    | none =>
      refine (clone_nil cap w).mono ?_
      rintro e w' ⟨rfl, rfl⟩
      exact ⟨none, 0, rfl, World.ownsRow_nil _ _ _ _, Below.refl _ _⟩
    | some ad =>
      refine (clone_empty ad cap w).mono ?_
      rintro e w' ⟨rfl, h1, h2⟩
      exact ⟨_, 0, rfl, h1, h2⟩
  · obtain ⟨b, off, rfl, hb, hc⟩ := hr (by omega)
    refine (clone_some b off n cap ws w hb hl (by omega) hn hc).mono ?_
    rintro e w' ⟨rfl, h1, h2⟩
    exact ⟨_, n, rfl, h1, h2⟩

theorem row_of_own {w : World} {B n cp : Nat} {ao : Option Addr} {ws : List Int} (h : w.ownsRow B 29 1 (.slice ao n cp) n (wcs ws)) : Row w ao n ws := by
  have hl : ws.length = n := by have := h.1; rw [wcs_length] at this; omega
  refine ⟨hl, fun h0 => ?_⟩
  obtain ⟨g, cap, hv, _, hg⟩ := h.form h0
  have hao : ao = some ⟨g, 0, none⟩ ∧ cp = cap := by simpa using hv
  obtain ⟨rfl, rfl⟩ := hao
  refine ⟨g, 0, rfl, hg, fun j hj => ?_⟩
  rw [Nat.zero_add, h.cellAt j (by omega), wcs_at ws j (by omega)]

theorem none_of_own {w : World} {B n cp : Nat} {ao : Option Addr} {xs : List Value} (h : w.ownsRow B 29 1 (.slice ao n cp) n xs) : ao = none → n = 0 := by
  intro e
  by_cases h0 : n = 0
  · exact h0
  · obtain ⟨g, cap, hv, _, _⟩ := h.form (by omega)
    subst e
    simp at hv

set_option maxHeartbeats 4000000 in
set_option maxRecDepth 100000 in
/-- THE LAW inside its guards. -/
theorem law_in (a0 a2 : Option Addr) (n cap0 K cap2 d : Nat) (ws : List Int) (f : Nat → Bool) (w : World) (hr : Row w a0 n ws) (hnone : a0 = none → n = 0) (hw : Words ws)
    (ho : ∀ j, j < K → ∃ b off, a2 = some ⟨b, off, none⟩ ∧ b < w.heap.size ∧ w.cell? ⟨b, off + j, none⟩ = some (.bool (f j)))
    (hn : n ≤ 131072) (hK : K ≤ 1048576) (hsum : n * 8 + K ≤ 1048576) (hd : d / 64 ≤ n) :
    Calls Try.prog 3 #[.slice a0 n cap0, .int .i64 d, .slice a2 K cap2] w fun e w' => e = .returned (.bool true) ∧ Below w.heap.size w w' := by
  have HW : Hid (Words ws) := hw
  have HO : Hid (∀ j, j < K → ∃ b off, a2 = some ⟨b, off, none⟩ ∧ b < w.heap.size ∧ w.cell? ⟨b, off + j, none⟩ = some (.bool (f j))) := ho
  have HC1 : Hid (Calls Try.prog 5 #[.slice a0 n cap0] w fun e w' => Cloned w n ws e w') := clone_any a0 n cap0 ws w hr (by omega) hnone
  have hwl : n = ws.length := hr.1.symm
  have Hwl : Hid (n = ws.length) := hwl
  have hdb : d ≤ 8388671 := by omega
  have i1 : ¬ (131072 : Int) < (n : Int) := by omega
  have i2 : ¬ (1048576 : Int) < (K : Int) := by omega
  have i3 : ¬ (d : Int) < 0 := by omega
  have i4 : (d : Int) / 64 ≤ (n : Int) := by omega
  have HDn : Hid (d / 64 ≤ n) := hd
  clear hw ho hr hwl hnone
  go_enter Try.func3, Try.ntmps3
  go_wp2_with fail
  refine (bytes_any a0 a2 n cap0 K cap2 d w (by omega) (by omega)).mono ?_
  rintro e w' ⟨⟨r, rfl⟩, rfl⟩
  cases r
  · go_wp2
    go_ret
    exact ⟨rfl, Below.refl _ _⟩
  go_wp2_with fail
  refine HC1.out.mono ?_
  rintro e w1 ⟨ab, cb, rfl, hown1, hbel1⟩
  have HO1 : Hid (w1.ownsRow w'.heap.size 29 1 (.slice ab n cb) n (wcs ws)) := hown1
  have HB1 : Hid (Below w'.heap.size w' w1) := hbel1
  have HC2 : Hid (Calls Try.prog 5 #[.slice ab n cb] w1 fun e w'' => Cloned w1 n ws e w'') := clone_any ab n cb ws w1 (row_of_own hown1) (by omega) (none_of_own hown1)
  clear hown1 hbel1 HC1
  go_wp2_with fail
  refine HC2.out.mono ?_
  rintro e w2 ⟨aw, cw, rfl, hown2, hbel2⟩
  have HO2 : Hid (w2.ownsRow w1.heap.size 29 1 (.slice aw n cw) n (wcs ws)) := hown2
  have HB2 : Hid (Below w1.heap.size w1 w2) := hbel2
  clear hown2 hbel2 HC2
  obtain ⟨S, hS⟩ : ∃ S, S = st ws d f := ⟨_, rfl⟩
  have S0 : Hid (S 0 = ws) := by show S 0 = ws; rw [hS]; rfl
  have SS : Hid (∀ k, S (k + 1) = pushW (S k) (d + k) (f k)) := by intro k; rw [hS]; rfl
  have SI : Hid (∀ k, Words (S k) ∧ (S k).length = (if k = 0 then ws.length else max ws.length ((d + k - 1) / 64 + 1)) ∧ (d + k) / 64 ≤ (S k).length ∧ ∀ p, bitAt (S k) p = if d ≤ p ∧ p < d + k then f (p - d) else bitAt ws p) := by
    intro k; rw [hS]; exact st_inv HW.out d (by rw [← Hwl.out]; exact HDn.out) f k
  clear hS
  have hsz1 := HB1.out.size
  have hsz2 := HB2.out.size
  go_wp2
  go_loopw [7, 8, 9] (fun v dd i wr => ∃ (k n' cp' : Nat) (ao' : Option Addr), k ≤ K ∧ i = .int .i64 k ∧ dd = .int .i64 ((d : Int) + (k : Int)) ∧ v = .slice ao' n' cp' ∧ Hid (n' = (S k).length) ∧ Hid (wr.ownsRow w1.heap.size 29 1 (.slice ao' n' cp') n' (wcs (S k))) ∧ Hid (Below w1.heap.size w1 wr)) (fun _ _ i _ => K - (intOf i).toNat)
  case atStart => exact ⟨0, n, cw, aw, Nat.zero_le _, rfl, by simp, rfl, by show n = _; rw [S0.out]; exact Hwl.out, by show w2.ownsRow _ _ _ _ _ _; rw [S0.out]; exact HO2.out, HB2⟩
  case round =>
    obtain ⟨k, n', cp', ao', hk, rfl, rfl, rfl, Hn', Ho', Hb'⟩ := hrel
    by_cases hlt : k < K
    · obtain ⟨bo, oo, rfl, hbo, hco⟩ := HO.out k hlt
      obtain ⟨c, hcf⟩ : ∃ c, c = f k := ⟨_, rfl⟩
      have hcr : wr.cell? ⟨bo, oo + k, none⟩ = some (.bool c) := by
        rw [hcf, ← hco]
        exact (Hb'.out.cell (by exact Nat.lt_of_lt_of_le hbo hsz1)).trans (HB1.out.cell (by exact hbo))
      have hpu := zzpush_any w1.heap.size n' cp' (d + k) ao' (S k) c wr Hb'.out.size Hn'.out (SI.out k).1 (by rw [Hn'.out]; exact (SI.out k).2.2.1) (by omega) Ho'.out
      rw [Int.natCast_add] at hpu
      have HPU : Hid (Calls Try.prog 6 #[.slice ao' n' cp', .int .i64 ((d : Int) + (k : Int)), .bool c] wr fun e w'' => Pushed w1.heap.size (S k) (d + k) c wr e w'') := hpu
      have HSk : Hid (S (k + 1) = pushW (S k) (d + k) c) := by show S (k + 1) = _; rw [hcf]; exact SS.out k
      clear hpu hco hcf
      go_wp2_with fail
      refine HPU.out.mono ?_
      rintro e w4 ⟨g', n2, cp2, rfl, hn2, ho2, hb2⟩
      have Hn2 : Hid (n2 = (S (k + 1)).length) := by show n2 = _; rw [HSk.out]; exact hn2
      have Ho2 : Hid (w4.ownsRow w1.heap.size 29 1 (.slice (some ⟨g', 0, none⟩) n2 cp2) n2 (wcs (S (k + 1)))) := by show w4.ownsRow _ _ _ _ _ _; rw [HSk.out]; exact ho2
      have Hb2 : Hid (Below w1.heap.size w1 w4) := Hb'.out.trans hb2
      clear hn2 ho2 hb2 HPU
      go_wp2
      go_roundw
      case rel => exact ⟨k + 1, n2, cp2, some ⟨g', 0, none⟩, by omega, by go_num, by go_num, rfl, Hn2, Ho2, Hb2⟩
      case measure => simp [intOf]; omega
    · have hkK : K = k := by omega
      subst hkK
      have hinv := SI.out K
      obtain ⟨hSw, hSl, hSd, hSb⟩ := hinv
      rw [← Hwl.out, ← Hn'.out] at hSl
      have HSw : Hid (Words (S K)) := hSw
      have HSb : Hid (∀ p, bitAt (S K) p = if d ≤ p ∧ p < d + K then f (p - d) else bitAt ws p) := hSb
      have HSl : Hid (n' = (if K = 0 then n else max n ((d + K - 1) / 64 + 1))) := hSl
      have hn'b : n' ≤ 200000 := by rw [hSl]; split <;> omega
      have hwr : w1.heap.size ≤ wr.heap.size := Hb'.out.size
      clear hSw hSd hSb hSl SI SS S0 hlt hk
      by_cases hK0 : K = 0
      · have HT : Hid (n = n') := by have := HSl.out; rw [if_pos hK0] at this; exact this.symm
        have j0 : ¬ (0 : Int) < (K : Int) := by omega
        have jn : ((n' : Int) != (n : Int)) = false := by rw [bne_eq_false_iff_eq]; have := HT.out; omega
        clear HSl hK0
        go_wp2
        go_loop [13] (fun p => ∃ q : Nat, q ≤ 64 * n ∧ p = .int .i64 q) (fun p => 64 * n - (intOf p).toNat)
        case atStart => exact ⟨0, Nat.zero_le _, rfl⟩
        case round =>
          obtain ⟨q, hq, rfl⟩ := hrel
          by_cases hlt : q < 64 * n
          · have hqn : q / 64 < n' := by have := HT.out; omega
            obtain ⟨gw, cw, hv, _, hgw⟩ := Ho'.out.form (by omega)
            have hao : ao' = some ⟨gw, 0, none⟩ ∧ cp' = cw := by simpa using hv
            obtain ⟨rfl, rfl⟩ := hao
            obtain ⟨c, hc⟩ : ∃ c, c = bitAt (S K) q := ⟨_, rfl⟩
            have CW : Hid (Calls Try.prog 7 #[.slice (some ⟨gw, 0, none⟩) n' cp', .int .i64 q] wr fun e w9 => e = .returned (.bool c) ∧ w9 = wr) := by
              have hx := words_getD HSw.out (q / 64)
              have h := bit_any gw n' cp' q ((S K).getD (q / 64) 0) wr (by omega) hqn hx.1 hx.2 (by rw [Ho'.out.cellAt _ (by omega), wcs_at _ _ (by rw [← Hn'.out]; exact hqn)])
              rw [hc]
              exact h
            have hcb := HSb.out q
            rw [← hc] at hcb
            clear hv hc
            by_cases hin : d ≤ q ∧ q < d + K
            · exfalso; omega
            · rw [if_neg hin] at hcb
              by_cases hqb : q < 64 * n
              · obtain ⟨gb, cb', hv, _, hgb⟩ := HO1.out.form (by omega)
                have hao : ab = some ⟨gb, 0, none⟩ ∧ cb = cb' := by simpa using hv
                obtain ⟨rfl, rfl⟩ := hao
                have CB : Hid (Calls Try.prog 7 #[.slice (some ⟨gb, 0, none⟩) n cb, .int .i64 q] wr fun e w9 => e = .returned (.bool c) ∧ w9 = wr) := by
                  have hx := words_getD HW.out (q / 64)
                  have h := bit_any gb n cb q (ws.getD (q / 64) 0) wr (by omega) (by omega) hx.1 hx.2 ((Hb'.out.cell (by exact hgb)).trans (by rw [HO1.out.cellAt _ (by omega), wcs_at _ _ (by rw [← Hwl.out]; omega)]))
                  rw [hcb]
                  exact h
                clear hcb hv
                by_cases hdq : d ≤ q
                · have j1 : (d : Int) ≤ (q : Int) := by omega
                  have j2 : ¬ (q : Int) < (d : Int) + (K : Int) := by omega
                  go_wp2_with fail
                  refine CB.out.mono ?_
                  rintro e w8 ⟨rfl, rfl⟩
                  go_wp2_with fail
                  refine CW.out.mono ?_
                  rintro e w9 ⟨rfl, rfl⟩
                  go_wp2
                  go_round
                  case rel => exact ⟨q + 1, by omega, by go_num⟩
                  case measure => simp [intOf]; omega
                · have j1 : ¬ (d : Int) ≤ (q : Int) := by omega
                  go_wp2_with fail
                  refine CB.out.mono ?_
                  rintro e w8 ⟨rfl, rfl⟩
                  go_wp2_with fail
                  refine CW.out.mono ?_
                  rintro e w9 ⟨rfl, rfl⟩
                  go_wp2
                  go_round
                  case rel => exact ⟨q + 1, by omega, by go_num⟩
                  case measure => simp [intOf]; omega
              · exact absurd hlt hqb
          · go_wp2
            go_ret
            exact ⟨rfl, HB1.out.trans (Hb'.out.mono hsz1)⟩
      · have hl2 := HSl.out
        rw [if_neg hK0] at hl2
        have j0 : (0 : Int) < (K : Int) := by omega
        by_cases hwn : n < (d + K - 1) / 64 + 1
        · have HT : Hid (n' = n') := rfl
          have hW : ((d : Int) + (K : Int) - 1) / 64 + 1 = (n' : Int) := by omega
          have jw : (n : Int) < (n' : Int) := by omega
          clear HSl hK0 hl2 hwn
          go_wp2
          go_loop [13] (fun p => ∃ q : Nat, q ≤ 64 * n' ∧ p = .int .i64 q) (fun p => 64 * n' - (intOf p).toNat)
          case atStart => exact ⟨0, Nat.zero_le _, rfl⟩
          case round =>
            obtain ⟨q, hq, rfl⟩ := hrel
            by_cases hlt : q < 64 * n'
            · have hqn : q / 64 < n' := by have := HT.out; omega
              obtain ⟨gw, cw, hv, _, hgw⟩ := Ho'.out.form (by omega)
              have hao : ao' = some ⟨gw, 0, none⟩ ∧ cp' = cw := by simpa using hv
              obtain ⟨rfl, rfl⟩ := hao
              obtain ⟨c, hc⟩ : ∃ c, c = bitAt (S K) q := ⟨_, rfl⟩
              have CW : Hid (Calls Try.prog 7 #[.slice (some ⟨gw, 0, none⟩) n' cp', .int .i64 q] wr fun e w9 => e = .returned (.bool c) ∧ w9 = wr) := by
                have hx := words_getD HSw.out (q / 64)
                have h := bit_any gw n' cp' q ((S K).getD (q / 64) 0) wr (by omega) hqn hx.1 hx.2 (by rw [Ho'.out.cellAt _ (by omega), wcs_at _ _ (by rw [← Hn'.out]; exact hqn)])
                rw [hc]
                exact h
              have hcb := HSb.out q
              rw [← hc] at hcb
              clear hv hc
              by_cases hin : d ≤ q ∧ q < d + K
              · obtain ⟨bo, oo, rfl, hbo, hco⟩ := HO.out (q - d) (by omega)
                rw [if_pos hin] at hcb
                have hcr : wr.cell? ⟨bo, oo + (q - d), none⟩ = some (.bool c) := by
                  rw [hcb, ← hco]
                  exact (Hb'.out.cell (by exact Nat.lt_of_lt_of_le hbo hsz1)).trans (HB1.out.cell (by exact hbo))
                have j1 : (d : Int) ≤ (q : Int) := by omega
                have j2 : (q : Int) < (d : Int) + (K : Int) := by omega
                clear hcb hco
                go_wp2_with fail
                refine CW.out.mono ?_
                rintro e w9 ⟨rfl, rfl⟩
                go_wp2
                go_round
                case rel => exact ⟨q + 1, by omega, by go_num⟩
                case measure => simp [intOf]; omega
              · rw [if_neg hin] at hcb
                by_cases hqb : q < 64 * n
                · obtain ⟨gb, cb', hv, _, hgb⟩ := HO1.out.form (by omega)
                  have hao : ab = some ⟨gb, 0, none⟩ ∧ cb = cb' := by simpa using hv
                  obtain ⟨rfl, rfl⟩ := hao
                  have CB : Hid (Calls Try.prog 7 #[.slice (some ⟨gb, 0, none⟩) n cb, .int .i64 q] wr fun e w9 => e = .returned (.bool c) ∧ w9 = wr) := by
                    have hx := words_getD HW.out (q / 64)
                    have h := bit_any gb n cb q (ws.getD (q / 64) 0) wr (by omega) (by omega) hx.1 hx.2 ((Hb'.out.cell (by exact hgb)).trans (by rw [HO1.out.cellAt _ (by omega), wcs_at _ _ (by rw [← Hwl.out]; omega)]))
                    rw [hcb]
                    exact h
                  clear hcb hv
                  by_cases hdq : d ≤ q
                  · exfalso; omega
                  · have j1 : ¬ (d : Int) ≤ (q : Int) := by omega
                    go_wp2_with fail
                    refine CB.out.mono ?_
                    rintro e w8 ⟨rfl, rfl⟩
                    go_wp2_with fail
                    refine CW.out.mono ?_
                    rintro e w9 ⟨rfl, rfl⟩
                    go_wp2
                    go_round
                    case rel => exact ⟨q + 1, by omega, by go_num⟩
                    case measure => simp [intOf]; omega
                · rw [bit_behind ws q (by rw [← Hwl.out]; omega)] at hcb
                  subst hcb
                  by_cases hdq : d ≤ q
                  · have j1 : (d : Int) ≤ (q : Int) := by omega
                    have j2 : ¬ (q : Int) < (d : Int) + (K : Int) := by omega
                    go_wp2_with fail
                    refine CW.out.mono ?_
                    rintro e w9 ⟨rfl, rfl⟩
                    go_wp2
                    go_round
                    case rel => exact ⟨q + 1, by omega, by go_num⟩
                    case measure => simp [intOf]; omega
                  · have j1 : ¬ (d : Int) ≤ (q : Int) := by omega
                    go_wp2_with fail
                    refine CW.out.mono ?_
                    rintro e w9 ⟨rfl, rfl⟩
                    go_wp2
                    go_round
                    case rel => exact ⟨q + 1, by omega, by go_num⟩
                    case measure => simp [intOf]; omega
            · go_wp2
              go_ret
              exact ⟨rfl, HB1.out.trans (Hb'.out.mono hsz1)⟩
        · have HT : Hid (n = n') := by show n = n'; omega
          have jw : ¬ (n : Int) < ((d : Int) + (K : Int) - 1) / 64 + 1 := by omega
          have jn : ((n' : Int) != (n : Int)) = false := by rw [bne_eq_false_iff_eq]; have := HT.out; omega
          clear HSl hK0 hl2 hwn
          go_wp2
          go_loop [13] (fun p => ∃ q : Nat, q ≤ 64 * n ∧ p = .int .i64 q) (fun p => 64 * n - (intOf p).toNat)
          case atStart => exact ⟨0, Nat.zero_le _, rfl⟩
          case round =>
            obtain ⟨q, hq, rfl⟩ := hrel
            by_cases hlt : q < 64 * n
            · have hqn : q / 64 < n' := by have := HT.out; omega
              obtain ⟨gw, cw, hv, _, hgw⟩ := Ho'.out.form (by omega)
              have hao : ao' = some ⟨gw, 0, none⟩ ∧ cp' = cw := by simpa using hv
              obtain ⟨rfl, rfl⟩ := hao
              obtain ⟨c, hc⟩ : ∃ c, c = bitAt (S K) q := ⟨_, rfl⟩
              have CW : Hid (Calls Try.prog 7 #[.slice (some ⟨gw, 0, none⟩) n' cp', .int .i64 q] wr fun e w9 => e = .returned (.bool c) ∧ w9 = wr) := by
                have hx := words_getD HSw.out (q / 64)
                have h := bit_any gw n' cp' q ((S K).getD (q / 64) 0) wr (by omega) hqn hx.1 hx.2 (by rw [Ho'.out.cellAt _ (by omega), wcs_at _ _ (by rw [← Hn'.out]; exact hqn)])
                rw [hc]
                exact h
              have hcb := HSb.out q
              rw [← hc] at hcb
              clear hv hc
              by_cases hin : d ≤ q ∧ q < d + K
              · obtain ⟨bo, oo, rfl, hbo, hco⟩ := HO.out (q - d) (by omega)
                rw [if_pos hin] at hcb
                have hcr : wr.cell? ⟨bo, oo + (q - d), none⟩ = some (.bool c) := by
                  rw [hcb, ← hco]
                  exact (Hb'.out.cell (by exact Nat.lt_of_lt_of_le hbo hsz1)).trans (HB1.out.cell (by exact hbo))
                have j1 : (d : Int) ≤ (q : Int) := by omega
                have j2 : (q : Int) < (d : Int) + (K : Int) := by omega
                clear hcb hco
                go_wp2_with fail
                refine CW.out.mono ?_
                rintro e w9 ⟨rfl, rfl⟩
                go_wp2
                go_round
                case rel => exact ⟨q + 1, by omega, by go_num⟩
                case measure => simp [intOf]; omega
              · rw [if_neg hin] at hcb
                by_cases hqb : q < 64 * n
                · obtain ⟨gb, cb', hv, _, hgb⟩ := HO1.out.form (by omega)
                  have hao : ab = some ⟨gb, 0, none⟩ ∧ cb = cb' := by simpa using hv
                  obtain ⟨rfl, rfl⟩ := hao
                  have CB : Hid (Calls Try.prog 7 #[.slice (some ⟨gb, 0, none⟩) n cb, .int .i64 q] wr fun e w9 => e = .returned (.bool c) ∧ w9 = wr) := by
                    have hx := words_getD HW.out (q / 64)
                    have h := bit_any gb n cb q (ws.getD (q / 64) 0) wr (by omega) (by omega) hx.1 hx.2 ((Hb'.out.cell (by exact hgb)).trans (by rw [HO1.out.cellAt _ (by omega), wcs_at _ _ (by rw [← Hwl.out]; omega)]))
                    rw [hcb]
                    exact h
                  clear hcb hv
                  by_cases hdq : d ≤ q
                  · have j1 : (d : Int) ≤ (q : Int) := by omega
                    have j2 : ¬ (q : Int) < (d : Int) + (K : Int) := by omega
                    go_wp2_with fail
                    refine CB.out.mono ?_
                    rintro e w8 ⟨rfl, rfl⟩
                    go_wp2_with fail
                    refine CW.out.mono ?_
                    rintro e w9 ⟨rfl, rfl⟩
                    go_wp2
                    go_round
                    case rel => exact ⟨q + 1, by omega, by go_num⟩
                    case measure => simp [intOf]; omega
                  · have j1 : ¬ (d : Int) ≤ (q : Int) := by omega
                    go_wp2_with fail
                    refine CB.out.mono ?_
                    rintro e w8 ⟨rfl, rfl⟩
                    go_wp2_with fail
                    refine CW.out.mono ?_
                    rintro e w9 ⟨rfl, rfl⟩
                    go_wp2
                    go_round
                    case rel => exact ⟨q + 1, by omega, by go_num⟩
                    case measure => simp [intOf]; omega
                · exact absurd hlt hqb
            · go_wp2
              go_ret
              exact ⟨rfl, HB1.out.trans (Hb'.out.mono hsz1)⟩

end Go.Proofs.Qxb6617535a
