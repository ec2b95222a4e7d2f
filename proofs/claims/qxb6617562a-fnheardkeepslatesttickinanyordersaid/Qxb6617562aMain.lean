/-
  Seat b6617562a. The walk of the law itself (function 3) inside its guards, out of its callees' contracts.
-/
import Derived.Test.Qxb6617562aTwo
import Derived.Deep.DeepCutAuto
import Derived.Deep.RegionHeld3
namespace Go.Proofs.Qxb6617562a
open Go.RowKit

theorem Tab.wf {w : World} {b n : Nat} {M : List UInt8 → Option Int} (h : Tab w b n M) (s : ByteArray) (hs : s.size ≤ maxLen) : (Lit.int .i64 ((M (nm s)).getD 0)).wf = true := by
  have hlk := h.look s hs
  obtain ⟨D, h1, h2⟩ := h
  obtain ⟨v, ps, hrun, hv⟩ := h1.look_ok law9 Try.underlying29 (zero2 w) (plainElem_int Try.underlying2 (by decide)) (WideMaps.keyOf_string_mk Try.underlying9 hs)
  obtain ⟨a, rfl, _, hw⟩ := plainElem_int_inv Try.underlying2 hv
  rw [hlk] at hrun
  have e : (M s.data.toList).getD 0 = a ∧ (M s.data.toList).isSome = Maps.has D (.string s.data.toList) := by simpa using hrun
  rw [← e.1] at hw
  exact hw

theorem want_no {M0 : List UInt8 → Option Int} {el : List UInt8 → Bool} {K : Nat → List UInt8} {T : Nat → Int} {n i : Nat} (h : el (K i) = false) : want M0 el K T n (i + 1) = want M0 el K T n i := by simp [want, h]
theorem want_yes {M0 : List UInt8 → Option Int} {el : List UInt8 → Bool} {K : Nat → List UInt8} {T : Nat → Int} {n i : Nat} (h : el (K i) = true) : want M0 el K T n (i + 1) = upd (want M0 el K T n i) (K i) (topOf (M0 (K i)) ((told K T (K i) n).getD 0)) := by simp [want, h]

set_option maxHeartbeats 16000000 in
set_option maxRecDepth 100000 in
theorem law_in (self : ByteArray) (known : Bool) (a2 a3 a4 a5 a6 : Option Addr) (l2 c2 l3 c3 l4 c4 l5 c5 l6 c6 : Nat) (hs so ss : Nat → ByteArray) (ST TT : Nat → Int) (w : World)
    (r2 : SRow w a2 l2 hs) (r3 : SRow w a3 l3 so) (r4 : IRow w a4 l4 ST) (r5 : SRow w a5 l5 ss) (r6 : IRow w a6 l6 TT)
    (g0 : self.size ≤ 1048576) (g2 : l2 ≤ 4096) (g3 : l3 ≤ 4096) (g4 : l4 ≤ 4096) (g5 : l5 ≤ 4096) (g6 : l6 ≤ 4096) (gt : self.size + 8 * l4 + 8 * l6 ≤ 1048576) :
    Calls Try.prog 3 #[.string self, .bool known, .slice a2 l2 c2, .slice a3 l3 c3, .slice a4 l4 c4, .slice a5 l5 c5, .slice a6 l6 c6] w fun e w' => e = .returned (.bool true) ∧ Below w.heap.size w w' := by
  have HBY : Hid (Calls Try.prog 4 #[.string self, .bool known, .slice a2 l2 c2, .slice a3 l3 c3, .slice a4 l4 c4, .slice a5 l5 c5, .slice a6 l6 c6] w fun e w' => SomeBool e ∧ w' = w) :=
    bytes_any self known a2 a3 a4 a5 a6 l2 c2 l3 c3 l4 c4 l5 c5 l6 c6 hs so ss w r2 r3 r5 (by omega) (by omega) (by omega) (by omega) (by omega) (by omega)
  have R2 : Hid (SRow w a2 l2 hs) := r2
  have R3 : Hid (SRow w a3 l3 so) := r3
  have R4 : Hid (IRow w a4 l4 ST) := r4
  have R5 : Hid (SRow w a5 l5 ss) := r5
  have R6 : Hid (IRow w a6 l6 TT) := r6
  have d0 : decide ((1048576 : Int) < (self.size : Int)) = false := decide_eq_false (by omega)
  have d2 : decide ((4096 : Int) < (l2 : Int)) = false := decide_eq_false (by omega)
  have d3 : decide ((4096 : Int) < (l3 : Int)) = false := decide_eq_false (by omega)
  have d4 : decide ((4096 : Int) < (l4 : Int)) = false := decide_eq_false (by omega)
  have d5 : decide ((4096 : Int) < (l5 : Int)) = false := decide_eq_false (by omega)
  have d6 : decide ((4096 : Int) < (l6 : Int)) = false := decide_eq_false (by omega)
  have dt : decide ((1048576 : Int) < (self.size : Int) + 8 * (l4 : Int) + 8 * (l6 : Int)) = false := decide_eq_false (by omega)
  clear r2 r3 r4 r5 r6
  go_enter Try.func3, Try.ntmps3
  go_wp2_with fail
  refine HBY.out.mono ?_
  rintro e w' ⟨⟨r, rfl⟩, rfl⟩
  clear HBY
  cases r
  · go_wp2
    go_ret
    exact ⟨rfl, Below.refl _ _⟩
  go_wp2
  clear d0 d2 d3 d4 d5 d6 dt
  go_loop [15, 16] (fun t i => ∃ (k : Nat) (z : Int), k ≤ l2 ∧ i = .int .i64 k ∧ t = .int .i64 z) (fun _ i => l2 - (intOf i).toNat)
  case atStart => exact ⟨0, _, Nat.zero_le _, rfl, rfl⟩
  case round =>
    obtain ⟨ka, kaz, hka, rfl, rfl⟩ := hrel
    by_cases hlka : ka < l2
    · obtain ⟨b, o, rfl, hb, hc, hsz⟩ := R2.out ka hlka
      obtain ⟨s, hse⟩ : ∃ s, s = hs ka := ⟨_, rfl⟩
      rw [← hse] at hc hsz
      clear hse
      go_wp2
      · go_ret
        exact ⟨rfl, Below.refl _ _⟩
      · go_round
        case rel => exact ⟨ka + 1, _, by omega, by go_num, rfl⟩
        case measure => simp [intOf]; omega
    · go_wp2
      go_loop [15, 17] (fun t i => ∃ (k : Nat) (z : Int), k ≤ l3 ∧ i = .int .i64 k ∧ t = .int .i64 z) (fun _ i => l3 - (intOf i).toNat)
      case atStart => exact ⟨0, _, Nat.zero_le _, rfl, rfl⟩
      case round =>
        obtain ⟨kb, kbz, hkb, rfl, rfl⟩ := hrel
        by_cases hlkb : kb < l3
        · obtain ⟨b, o, rfl, hb, hc, hsz⟩ := R3.out kb hlkb
          obtain ⟨s, hse⟩ : ∃ s, s = so kb := ⟨_, rfl⟩
          rw [← hse] at hc hsz
          clear hse
          go_wp2
          · go_ret
            exact ⟨rfl, Below.refl _ _⟩
          · go_round
            case rel => exact ⟨kb + 1, _, by omega, by go_num, rfl⟩
            case measure => simp [intOf]; omega
        · go_wp2
          go_loop [15, 18] (fun t i => ∃ (k : Nat) (z : Int), k ≤ l5 ∧ i = .int .i64 k ∧ t = .int .i64 z) (fun _ i => l5 - (intOf i).toNat)
          case atStart => exact ⟨0, _, Nat.zero_le _, rfl, rfl⟩
          case round =>
            obtain ⟨kc, kcz, hkc, rfl, rfl⟩ := hrel
            by_cases hlkc : kc < l5
            · obtain ⟨b, o, rfl, hb, hc, hsz⟩ := R5.out kc hlkc
              obtain ⟨s, hse⟩ : ∃ s, s = ss kc := ⟨_, rfl⟩
              rw [← hse] at hc hsz
              clear hse
              go_wp2
              · go_ret
                exact ⟨rfl, Below.refl _ _⟩
              · go_round
                case rel => exact ⟨kc + 1, _, by omega, by go_num, rfl⟩
                case measure => simp [intOf]; omega
            · clear hka hkb hkc hlka hlkb
              obtain ⟨m, hm⟩ : ∃ m, m = min l3 l4 := ⟨_, rfl⟩
              have hm3 : m ≤ l3 := by omega
              have hm4 : m ≤ l4 := by omega
              have Hm : Hid (m = min l3 l4) := hm
              obtain ⟨n, hn⟩ : ∃ n, n = min l5 l6 := ⟨_, rfl⟩
              have hn5 : n ≤ l5 := by omega
              have hn6 : n ≤ l6 := by omega
              have Hn : Hid (n = min l5 l6) := hn
              clear hm hn
              go_upto_if 136 with fail
              go_cut [19] from 133 to 138 (fun s19 wx => s19 = .int .i64 (m : Int) ∧ w' = wx)
              case first =>
                by_cases q : (l4 : Int) < (l3 : Int)
                · go_wp2
                  go_meet
                  case rel => exact ⟨by have := Hm.out; go_num, rfl⟩
                · go_wp2
                  go_meet
                  case rel => exact ⟨by have := Hm.out; go_num, rfl⟩
              case rest =>
                obtain ⟨rfl, rfl⟩ := hcut
                go_upto_if 144 with fail
                go_cut [20] from 139 to 146 (fun s20 wx => s20 = .int .i64 (n : Int) ∧ w' = wx)
                case first =>
                  by_cases q : (l6 : Int) < (l5 : Int)
                  · go_wp2
                    go_meet
                    case rel => exact ⟨by have := Hn.out; go_num, rfl⟩
                  · go_wp2
                    go_meet
                    case rel => exact ⟨by have := Hn.out; go_num, rfl⟩
                case rest =>
                  obtain ⟨rfl, rfl⟩ := hcut
                  go_upto_if 147 with fail
                  go_cut [21] from 147 to 148 (fun s21 wx => ∃ mp : Option Addr, s21 = .pointer mp ∧ Hid (mp.isNone = !known) ∧ Hid (Below w'.heap.size w' wx))
                  case first =>
                    cases known
                    · go_wp2
                      go_meet
                      case rel => exact ⟨none, rfl, rfl, Below.refl _ _⟩
                    · go_wp2_with fail
                      refine (mesh_any _).mono ?_
                      rintro e w1 ⟨rfl, hb1⟩
                      have HB1 : Hid (Below w'.heap.size w' w1) := hb1
                      clear hb1
                      go_wp2
                      go_meet
                      case rel => exact ⟨_, rfl, rfl, HB1⟩
                  case rest =>
                    obtain ⟨mp, rfl, HMP, HB1⟩ := hcut
                    obtain ⟨w1, hw1⟩ : ∃ w1, w1 = wc := ⟨_, rfl⟩
                    subst hw1
                    obtain ⟨M0, hM0⟩ : ∃ M0, M0 = seen (fun i => nm (so i)) ST m := ⟨_, rfl⟩
                    have HM0 : Hid (M0 = seen (fun i => nm (so i)) ST m) := hM0
                    clear hM0
                    have HSE : Hid (∀ wx : World, Below w'.heap.size w' wx → Calls Try.prog 7 #[.slice a3 l3 c3, .slice a4 l4 c4, .int .i64 m] wx fun e w'' => e = .returned (.map (some wx.heap.size)) ∧ Tab w'' wx.heap.size m M0 ∧ Below wx.heap.size wx w'') := by
                      intro wx hb
                      rw [HM0.out]
                      exact seenMap_any a3 a4 l3 c3 l4 c4 m so ST wx ((R3.out.below hb (Nat.le_refl _)).take hm3) ((R4.out.below hb (Nat.le_refl _)).take hm4) (by omega) hm3 hm4
                    go_wp2_with fail
                    refine (HSE.out w1 HB1.out).mono ?_
                    rintro e w2 ⟨rfl, t1, b2⟩
                    have T1 : Hid (Tab w2 w1.heap.size m M0) := t1
                    have B2 : Hid (Below w1.heap.size w1 w2) := b2
                    clear t1 b2
                    go_wp2_with fail
                    refine (store_any self mp w1.heap.size w2).mono ?_
                    rintro e w3 ⟨rfl, st1, e1, b3⟩
                    have ST1 : Hid (StoreAt w3 (w2.heap.size + 1) self mp w2.heap.size w1.heap.size) := st1
                    have E1 : Hid (Held w3 w2.heap.size 0 (fun _ => false)) := e1
                    have B3 : Hid (Below w2.heap.size w2 w3) := b3
                    have HBa : Hid (Below w'.heap.size w' w3) := (HB1.out.trans (B2.out.mono HB1.out.size)).trans (B3.out.mono (Nat.le_trans HB1.out.size B2.out.size))
                    clear st1 e1 b3
                    go_wp2_with fail
                    refine (HSE.out w3 HBa.out).mono ?_
                    rintro e w4 ⟨rfl, t2, b4⟩
                    have T2 : Hid (Tab w4 w3.heap.size m M0) := t2
                    have B4 : Hid (Below w3.heap.size w3 w4) := b4
                    clear t2 b4
                    go_wp2_with fail
                    refine (store_any self mp w3.heap.size w4).mono ?_
                    rintro e w5 ⟨rfl, st2, e2, b5⟩
                    have HTW : Hid (Two self mp w1.heap.size w2.heap.size (w2.heap.size + 1) w3.heap.size w4.heap.size (w4.heap.size + 1) w5 0 0 m m (fun _ => false) (fun _ => false) M0 M0) :=
                      two_start T1.out B2.out ST1.out E1.out B3.out T2.out B4.out st2 e2 b5
                    have HBb : Hid (Below w'.heap.size w' w5) := (HBa.out.trans (B4.out.mono HBa.out.size)).trans (b5.mono (Nat.le_trans HBa.out.size B4.out.size))
                    have hsz1 := HB1.out.size
                    obtain ⟨m1, hm1⟩ : ∃ m1, w1.heap.size = m1 := ⟨_, rfl⟩
                    obtain ⟨i1, hi1⟩ : ∃ i1, w2.heap.size = i1 := ⟨_, rfl⟩
                    obtain ⟨m2, hm2⟩ : ∃ m2, w3.heap.size = m2 := ⟨_, rfl⟩
                    obtain ⟨i2, hi2⟩ : ∃ i2, w4.heap.size = i2 := ⟨_, rfl⟩
                    rw [hm1, hi1, hm2, hi2] at HTW
                    rw [hm1] at hsz1
                    clear st2 e2 b5 T1 B2 ST1 E1 B3 HBa T2 B4 HB1
                    go_wp2
                    clear hm1 hi1 hm2 hi2
                    go_loopw [24] (fun i wr => ∃ j : Nat, j ≤ l2 ∧ i = .int .i64 j ∧ Hid (Two self mp m1 i1 (i1 + 1) m2 i2 (i2 + 1) wr j j m m (heldSet hs j) (heldSet hs j) M0 M0) ∧ Hid (Below w'.heap.size w' wr)) (fun i _ => l2 - (intOf i).toNat)
                    case atStart => exact ⟨0, Nat.zero_le _, rfl, HTW, HBb⟩
                    case round =>
                      obtain ⟨j, hj, rfl, HT, HB⟩ := hrel
                      by_cases hlt : j < l2
                      · obtain ⟨b, o, rfl, hb, hc, hsz⟩ := R2.out j hlt
                        obtain ⟨s, hse⟩ : ∃ s, s = hs j := ⟨_, rfl⟩
                        rw [← hse] at hc hsz
                        have HSs : Hid (s = hs j) := hse
                        clear hse
                        have hcr : wr.cell? ⟨b, o + j, none⟩ = some (.string s) := (HB.out.cell (by exact hb)).trans hc
                        have HC1 : Hid (Calls Try.prog 8 #[.pointer (some ⟨i1 + 1, 0, none⟩), .string s] wr fun e w'' => e = .returned (.tuple #[]) ∧ Held w'' i1 (j + 1) (addK (heldSet hs j) (nm s)) ∧ wr.grownBy w'' (some i1)) :=
                          hold_any (i1 + 1) i1 m1 j self s mp _ wr HT.out.st1 HT.out.he1 (by omega) hsz
                        have hm1i : m1 < i1 := HT.out.o1
                        have hm2i : m2 < i2 := HT.out.o4
                        have hsm : i1 + 1 < m2 := HT.out.o3
                        go_wp2_with fail
                        refine HC1.out.mono ?_
                        rintro e w9 ⟨rfl, k1, k2⟩
                        have HT9 : Hid (Two self mp m1 i1 (i1 + 1) m2 i2 (i2 + 1) w9 (j + 1) j m m (heldSet hs (j + 1)) (heldSet hs j) M0 M0) := by
                          have h := HT.out.i1w k1 k2
                          rw [HSs.out] at h
                          exact h
                        have HB9 : Hid (Below w'.heap.size w' w9) := HB.out.grown k2 HB.out.size (fun k hk => by cases hk; omega)
                        have hcr9 : w9.cell? ⟨b, o + j, none⟩ = some (.string s) := (HB9.out.cell (by exact hb)).trans hc
                        have HC2 : Hid (Calls Try.prog 8 #[.pointer (some ⟨i2 + 1, 0, none⟩), .string s] w9 fun e w'' => e = .returned (.tuple #[]) ∧ Held w'' i2 (j + 1) (addK (heldSet hs j) (nm s)) ∧ w9.grownBy w'' (some i2)) :=
                          hold_any (i2 + 1) i2 m2 j self s mp _ w9 HT9.out.st2 HT9.out.he2 (by omega) hsz
                        clear k1 k2 hcr HC1 HT HB
                        go_wp2_with fail
                        refine HC2.out.mono ?_
                        rintro e w10 ⟨rfl, k1, k2⟩
                        have HT10 : Hid (Two self mp m1 i1 (i1 + 1) m2 i2 (i2 + 1) w10 (j + 1) (j + 1) m m (heldSet hs (j + 1)) (heldSet hs (j + 1)) M0 M0) := by
                          have h := HT9.out.i2w k1 k2
                          rw [HSs.out] at h
                          exact h
                        have HB10 : Hid (Below w'.heap.size w' w10) := HB9.out.grown k2 HB9.out.size (fun k hk => by cases hk; omega)
                        clear k1 k2 hcr9 HC2 HT9 HB9
                        go_wp2
                        go_roundw
                        case rel => exact ⟨j + 1, by omega, by go_num, HT10, HB10⟩
                        case measure => simp [intOf]; omega
                      · have hjl : l2 = j := by omega
                        subst hjl
                        obtain ⟨w6, hw6⟩ : ∃ w6, w6 = wr := ⟨_, rfl⟩
                        subst hw6
                        obtain ⟨S, hS⟩ : ∃ S, S = heldSet hs l2 := ⟨_, rfl⟩
                        obtain ⟨el, hel⟩ : ∃ el, el = elig self known hs l2 := ⟨_, rfl⟩
                        rw [← hS] at HT
                        have HEL : Hid (∀ s : ByteArray, el (nm s) = (mp.isNone && !decide (nm s = nm self) && S (nm s))) := by
                          intro s
                          rw [hel, hS, HMP.out]
                          rfl
                        have HELe : Hid (el = elig self known hs l2) := hel
                        obtain ⟨F, hF⟩ : ∃ F, F = fwd M0 el (fun i => nm (ss i)) TT := ⟨_, rfl⟩
                        have F0 : Hid (F 0 = M0) := by show F 0 = M0; rw [hF]; rfl
                        have FS : Hid (∀ i, F (i + 1) = hear el (F i) (nm (ss i)) (TT i)) := by intro i; rw [hF]; rfl
                        have HF : Hid (F = fwd M0 el (fun i => nm (ss i)) TT) := hF
                        have o1 := HT.out.o1
                        have o3 := HT.out.o3
                        have o4 := HT.out.o4
                        have hw6s := HB.out.size
                        clear hS hel hF hlt hj
                        go_wp2
                        go_loopw [25] (fun i wr => ∃ j : Nat, j ≤ n ∧ i = .int .i64 j ∧ Hid (Two self mp m1 i1 (i1 + 1) m2 i2 (i2 + 1) wr l2 l2 (m + j) m S S (F j) M0) ∧ Hid (Below w'.heap.size w' wr)) (fun i _ => n - (intOf i).toNat)
                        case atStart => exact ⟨0, Nat.zero_le _, rfl, by show Two _ _ _ _ _ _ _ _ _ _ _ _ _ _ _ _ _; rw [F0.out]; exact HT.out, HB⟩
                        case round =>
                          obtain ⟨j, hj, rfl, HT5, HB5⟩ := hrel
                          by_cases hlt : j < n
                          · obtain ⟨b5, p5, rfl, hb5, hc5, hsz5⟩ := R5.out j (by omega)
                            obtain ⟨b6, p6, rfl, hb6, hc6, ht1, ht2⟩ := R6.out j (by omega)
                            obtain ⟨s, hse⟩ : ∃ s, s = ss j := ⟨_, rfl⟩
                            obtain ⟨t, hte⟩ : ∃ t, t = TT j := ⟨_, rfl⟩
                            rw [← hse] at hc5 hsz5
                            rw [← hte] at hc6 ht1 ht2
                            have e5 : wr.cell? ⟨b5, p5 + j, none⟩ = some (.string s) := (HB5.out.cell (by exact hb5)).trans hc5
                            have e6 : wr.cell? ⟨b6, p6 + j, none⟩ = some (.int .i64 t) := (HB5.out.cell (by exact hb6)).trans hc6
                            have HFj : Hid (F (j + 1) = hear el (F j) (nm s) t) := by show F (j + 1) = _; rw [hse, hte]; exact FS.out j
                            have HC : Hid (Calls Try.prog 9 #[.pointer (some ⟨i1 + 1, 0, none⟩), .string s, .int .i64 t] wr.drew fun e w'' => e = .returned (.tuple #[]) ∧ Tab w'' m1 (m + j + 1) (hear el (F j) (nm s) t) ∧ wr.drew.grownBy w'' (some m1)) :=
                              heard_any (i1 + 1) i1 m1 (m + j) l2 self s mp S (F j) el t wr.drew HT5.out.drew.st1 HT5.out.drew.he1 HT5.out.drew.ta1 (by omega) hsz5 ht1 ht2 (HEL.out s)
                            have q1 : (j : Int) < (l5 : Int) := by omega
                            have q2 : (j : Int) < (l6 : Int) := by omega
                            have q3 : (0 : Int) ≤ (j : Int) := by omega
                            clear hc5 hc6 hse hte
                            go_wp2
                            go_region_held3 (fun wq => wq.cell? ⟨b5, p5 + j, none⟩ = some (.string s) ∧ wq.cell? ⟨b6, p6 + j, none⟩ = some (.int .i64 t)) (first | go_keep | exact ⟨(HBx.cell (by exact hb5)).trans e5, (HBx.cell (by exact hb6)).trans e6⟩) (first | (go_at_call 9; refine HC.out.mono ?_; rintro e w9 ⟨rfl, k1, k2⟩; have HBx : Below w'.heap.size wr w9 := ((Below.refl _ _).drew).grown k2 HB5.out.size (fun k hk => by cases hk; exact hsz1)))
                            have HT9 : Hid (Two self mp m1 i1 (i1 + 1) m2 i2 (i2 + 1) w9 l2 l2 (m + (j + 1)) m S S (F (j + 1)) M0) := by
                              show Two _ _ _ _ _ _ _ _ _ _ _ _ _ _ _ _ _
                              rw [HFj.out]
                              exact HT5.out.drew.m1w k1 k2
                            have HB9 : Hid (Below w'.heap.size w' w9) := HB5.out.trans HBx
                            clear k1 k2 HBx HC HT5 HB5
                            go_wp2
                            go_roundw
                            case rel => exact ⟨j + 1, by omega, by go_num, HT9, HB9⟩
                            case measure => simp [intOf]; omega
                          · have hjn : n = j := by omega
                            subst hjn
                            obtain ⟨w7, hw7⟩ : ∃ w7, w7 = wr := ⟨_, rfl⟩
                            subst hw7
                            obtain ⟨G, hG⟩ : ∃ G, G = bwd M0 el (fun i => nm (ss i)) TT n := ⟨_, rfl⟩
                            have G0 : Hid (G 0 = M0) := by show G 0 = M0; rw [hG]; rfl
                            have GS : Hid (∀ r, G (r + 1) = hear el (G r) (nm (ss (n - (r + 1)))) (TT (n - (r + 1)))) := by intro r; rw [hG]; rfl
                            have HG : Hid (G = bwd M0 el (fun i => nm (ss i)) TT n) := hG
                            clear hG hlt hj HT HB F0 FS
                            go_wp2
                            go_loopw [26] (fun i wr => ∃ q : Nat, q ≤ n ∧ i = .int .i64 q ∧ Hid (Two self mp m1 i1 (i1 + 1) m2 i2 (i2 + 1) wr l2 l2 (m + n) (m + (n - q)) S S (F n) (G (n - q))) ∧ Hid (Below w'.heap.size w' wr)) (fun i _ => (intOf i).toNat)
                            case atStart => exact ⟨n, Nat.le_refl _, rfl, by show Two _ _ _ _ _ _ _ _ _ _ _ _ _ _ _ _ _; rw [Nat.sub_self, G0.out]; exact HT5.out, HB5⟩
                            case round =>
                              obtain ⟨q, hq, rfl, HT6, HB6⟩ := hrel
                              by_cases hlt : 0 < q
                              · obtain ⟨b5, p5, rfl, hb5, hc5, hsz5⟩ := R5.out (q - 1) (by omega)
                                obtain ⟨b6, p6, rfl, hb6, hc6, ht1, ht2⟩ := R6.out (q - 1) (by omega)
                                obtain ⟨s, hse⟩ : ∃ s, s = ss (q - 1) := ⟨_, rfl⟩
                                obtain ⟨t, hte⟩ : ∃ t, t = TT (q - 1) := ⟨_, rfl⟩
                                rw [← hse] at hc5 hsz5
                                rw [← hte] at hc6 ht1 ht2
                                have e5 : wr.cell? ⟨b5, p5 + (q - 1), none⟩ = some (.string s) := (HB6.out.cell (by exact hb5)).trans hc5
                                have e6 : wr.cell? ⟨b6, p6 + (q - 1), none⟩ = some (.int .i64 t) := (HB6.out.cell (by exact hb6)).trans hc6
                                have HGj : Hid (G (n - (q - 1)) = hear el (G (n - q)) (nm s) t) := by
                                  show G (n - (q - 1)) = _
                                  have h := GS.out (n - q)
                                  rw [show n - (n - q + 1) = q - 1 from by omega] at h
                                  rw [show n - (q - 1) = n - q + 1 from by omega, hse, hte]
                                  exact h
                                have HC : Hid (Calls Try.prog 9 #[.pointer (some ⟨i2 + 1, 0, none⟩), .string s, .int .i64 t] wr.drew fun e w'' => e = .returned (.tuple #[]) ∧ Tab w'' m2 (m + (n - q) + 1) (hear el (G (n - q)) (nm s) t) ∧ wr.drew.grownBy w'' (some m2)) :=
                                  heard_any (i2 + 1) i2 m2 (m + (n - q)) l2 self s mp S (G (n - q)) el t wr.drew HT6.out.drew.st2 HT6.out.drew.he2 HT6.out.drew.ta2 (by omega) hsz5 ht1 ht2 (HEL.out s)
                                have x1 : IntKind.i64.wrap ((q : Int) - 1) = (q : Int) - 1 := IntWalk.i64_in _ (by omega)
                                have x2 : ((q : Int) - 1).toNat = q - 1 := by omega
                                have x3 : (0 : Int) ≤ (q : Int) - 1 := by omega
                                have x4 : (q : Int) - 1 < (l5 : Int) := by omega
                                have x5 : (q : Int) - 1 < (l6 : Int) := by omega
                                have x6 : (0 : Int) < (q : Int) := by omega
                                have y1 : q ≤ l5 := by omega
                                have y2 : q ≤ l6 := by omega
                                have y3 : (q : Int) ≤ (l5 : Int) := by omega
                                have y4 : (q : Int) ≤ (l6 : Int) := by omega
                                have y5 : (1 : Int) ≤ (q : Int) := by omega
                                have y6 : 1 ≤ q := by omega
                                clear hc5 hc6 hse hte
                                go_wp2
                                go_region_held3 (fun wq => wq.cell? ⟨b5, p5 + (q - 1), none⟩ = some (.string s) ∧ wq.cell? ⟨b6, p6 + (q - 1), none⟩ = some (.int .i64 t)) (first | go_keep | exact ⟨(HBx.cell (by exact hb5)).trans e5, (HBx.cell (by exact hb6)).trans e6⟩) (first | (go_at_call 9; refine HC.out.mono ?_; rintro e w9 ⟨rfl, k1, k2⟩; have HBx : Below w'.heap.size wr w9 := ((Below.refl _ _).drew).grown k2 HB6.out.size (fun k hk => by cases hk; omega)))
                                have HT9 : Hid (Two self mp m1 i1 (i1 + 1) m2 i2 (i2 + 1) w9 l2 l2 (m + n) (m + (n - (q - 1))) S S (F n) (G (n - (q - 1)))) := by
                                  show Two _ _ _ _ _ _ _ _ _ _ _ _ _ _ _ _ _
                                  rw [HGj.out, show m + (n - (q - 1)) = m + (n - q) + 1 from by omega]
                                  exact HT6.out.drew.m2w k1 k2
                                have HB9 : Hid (Below w'.heap.size w' w9) := HB6.out.trans HBx
                                clear k1 k2 HBx HC HT6 HB6 x1 x2
                                go_wp2
                                go_roundw
                                case rel => exact ⟨q - 1, by omega, by go_num, HT9, HB9⟩
                                case measure => simp [intOf]; omega
                              · obtain ⟨rfl⟩ : q = 0 := by omega
                                obtain ⟨w8, hw8⟩ : ∃ w8, w8 = wr := ⟨_, rfl⟩
                                subst hw8
                                have HTW8 : Hid (Two self mp m1 i1 (i1 + 1) m2 i2 (i2 + 1) w8 l2 l2 (m + n) (m + n) S S (F n) (F n)) := by
                                  have h := HT6.out
                                  rw [Nat.sub_zero, HG.out, bwd_fwd, ← HF.out] at h
                                  exact h
                                have hlt8 := HTW8.out.lt
                                have hz8 := HB6.out.size
                                clear hlt hq HT6 HT5 HB5 G0 GS HG
                                go_wp2_with fail
                                refine (HSE.out w8 HB6.out).mono ?_
                                rintro e w9 ⟨rfl, t9, b9⟩
                                have T9 : Hid (Tab w9 w8.heap.size m M0) := t9
                                have B9 : Hid (Below w8.heap.size w8 w9) := b9
                                have HBc : Hid (Below w'.heap.size w' w9) := HB6.out.trans (B9.out.mono HB6.out.size)
                                clear t9 b9
                                go_wp2_with fail
                                refine (HSE.out w9 HBc.out).mono ?_
                                rintro e w10 ⟨rfl, t10, b10⟩
                                have T10 : Hid (Tab w10 w9.heap.size m M0) := t10
                                have T9' : Hid (Tab w10 w8.heap.size m M0) := T9.out.same (b10.block _ T9.out.lt)
                                have l9 := T9.out.lt
                                have TW10 : Hid (Two self mp m1 i1 (i1 + 1) m2 i2 (i2 + 1) w10 l2 l2 (m + n) (m + n) S S (F n) (F n)) := (HTW8.out.below B9.out hlt8).below b10 (by omega)
                                have HBd : Hid (Below w'.heap.size w' w10) := HBc.out.trans (b10.mono HBc.out.size)
                                have hz9 := HBc.out.size
                                have hz10 := b10.size
                                obtain ⟨bb, hbb⟩ : ∃ bb, w8.heap.size = bb := ⟨_, rfl⟩
                                obtain ⟨wb, hwb⟩ : ∃ wb, w9.heap.size = wb := ⟨_, rfl⟩
                                rw [hbb] at T9' hlt8 l9
                                rw [hwb] at T10 l9 hz9 hz10
                                obtain ⟨W, hW⟩ : ∃ W, W = want M0 el (fun i => nm (ss i)) TT n := ⟨_, rfl⟩
                                have W0 : Hid (W 0 = M0) := by show W 0 = M0; rw [hW]; rfl
                                have WN : Hid (∀ i, el (nm (ss i)) = false → W (i + 1) = W i) := by intro i h; rw [hW]; exact want_no h
                                have WY : Hid (∀ i, el (nm (ss i)) = true → W (i + 1) = upd (W i) (nm (ss i)) (topOf (M0 (nm (ss i))) ((told (fun i => nm (ss i)) TT (nm (ss i)) n).getD 0))) := by intro i h; rw [hW]; exact want_yes h
                                have WE : Hid (W n = F n) := by show W n = F n; rw [hW, HF.out]; exact want_fwd _ _ _ _ n
                                clear hW t10 b10 T9 B9 HBc HTW8 HB6
                                go_wp2
                                clear hbb hwb
                                go_loopw [29] (fun i wr => ∃ j : Nat, j ≤ n ∧ i = .int .i64 j ∧ Hid (Tab wr wb (m + j) (W j)) ∧ Hid (Below wb w10 wr)) (fun i _ => n - (intOf i).toNat)
                                case atStart => exact ⟨0, Nat.zero_le _, rfl, by show Tab _ _ _ _; rw [W0.out]; exact T10.out, Below.refl _ _⟩
                                case round =>
                                  obtain ⟨j, hj, rfl, HT7, HB7⟩ := hrel
                                  have HBr : Hid (Below w'.heap.size w' wr) := HBd.out.trans (HB7.out.mono hz9)
                                  by_cases hlt : j < n
                                  · obtain ⟨b5, p5, ha5, hb5, hc5, hsz5⟩ := R5.out j (by omega)
                                    have r2 := R2.out.below HBr.out (Nat.le_refl _)
                                    have r5 := (R5.out.below HBr.out (Nat.le_refl _)).take hn5
                                    have r6 := (R6.out.below HBr.out (Nat.le_refl _)).take hn6
                                    obtain ⟨s, hse⟩ : ∃ s, s = ss j := ⟨_, rfl⟩
                                    rw [← hse] at hc5 hsz5
                                    have e5 : wr.cell? ⟨b5, p5 + j, none⟩ = some (.string s) := (HBr.out.cell (by exact hb5)).trans hc5
                                    obtain ⟨ev, hev⟩ : ∃ ev, ev = el (nm s) := ⟨_, rfl⟩
                                    have HE : Hid (Calls Try.prog 10 #[.string s, .string self, .bool known, .slice a2 l2 c2] wr fun e w'' => e = .returned (.bool ev) ∧ w'' = wr) := by
                                      show Calls _ _ _ _ _
                                      rw [hev, HELe.out]
                                      exact eligible_any s self known a2 l2 c2 hs wr r2 (by omega)
                                    have hWN := WN.out j
                                    have hWY := WY.out j
                                    rw [← hse, ← hev] at hWN hWY
                                    obtain ⟨x, hx⟩ : ∃ x, x = (told (fun i => nm (ss i)) TT (nm s) n).getD 0 := ⟨_, rfl⟩
                                    have HL : Hid (Calls Try.prog 11 #[.string s, .slice a5 l5 c5, .slice a6 l6 c6, .int .i64 n] wr fun e w'' => e = .returned (.int .i64 x) ∧ w'' = wr) := by
                                      show Calls _ _ _ _ _
                                      rw [hx]
                                      exact latest_any s a5 a6 l5 c5 l6 c6 n ss TT wr r5 r6 (by omega) hn5 hn6
                                    have hxw : (Lit.int .i64 x).wf = true := by
                                      have hsp := told_spec (fun i => nm (ss i)) TT (nm s) n
                                      cases ht : told (fun i => nm (ss i)) TT (nm s) n with
                                      | none => exact absurd (show nm (ss j) = nm s by rw [hse]) (hsp.1 ht j hlt)
                                      | some z =>
                                        obtain ⟨i, hi, _, hz⟩ := (hsp.2 z ht).1
                                        obtain ⟨_, _, _, _, _, q1, q2⟩ := R6.out i (by omega)
                                        rw [hx, ht, Option.getD_some, ← hz]
                                        exact wf_of q1 q2
                                    have hlk := (T9'.out.same (HB7.out.block _ l9)).look s hsz5
                                    have hyw := (T9'.out).wf s hsz5
                                    rw [← hx] at hWY
                                    change Sem.run Try.prog (Instr.lookup 29 (.map (some bb)) (.string s) true) wr = .ok (.tuple #[.int .i64 ((M0 (nm s)).getD 0), .bool (M0 (nm s)).isSome]) wr at hlk
                                    have hstore := fun (v : Int) (hv : (Lit.int .i64 v).wf = true) => HT7.out.store (by unfold maxLen; omega) s hsz5 v hv
                                    have q5 : (j : Int) < (l5 : Int) := by omega
                                    subst ha5
                                    clear hse hev hx r2 r5 r6 hc5
                                    cases ev
                                    · have HWj : Hid (W (j + 1) = W j) := hWN rfl
                                      have HT11 : Hid (Tab wr wb (m + (j + 1)) (W (j + 1))) := by
                                        show Tab _ _ _ _
                                        rw [HWj.out]
                                        exact HT7.out.mono (by omega)
                                      clear hlk hyw hWN hWY hstore hxw HL HT7
                                      go_wp2_with fail
                                      refine HE.out.mono ?_
                                      rintro e w12 ⟨rfl, rfl⟩
                                      go_wp2
                                      go_roundw
                                      case rel => exact ⟨j + 1, by omega, by go_num, HT11, HB7⟩
                                      case measure => simp [intOf]; omega
                                    · have hWj := hWY rfl
                                      obtain ⟨om, hom⟩ : ∃ om, om = M0 (nm s) := ⟨_, rfl⟩
                                      rw [← hom] at hlk hyw hWj
                                      have HM : Hid (om = M0 (nm s)) := hom
                                      clear hom hWN hWY
                                      cases om with
                                      | none =>
                                        simp only [Option.getD_none, Option.isSome_none] at hlk
                                        obtain ⟨w11, hrun, ht11, hg11⟩ := hstore x hxw
                                        have HWj : Hid (W (j + 1) = upd (W j) (nm s) x) := hWj
                                        clear hWj hstore hyw hxw
                                        have HT11 : Hid (Tab w11 wb (m + (j + 1)) (W (j + 1))) := by
                                          show Tab _ _ _ _
                                          rw [HWj.out]
                                          exact ht11
                                        have HB11 : Hid (Below wb w10 w11) := HB7.out.grown hg11 (Nat.le_trans hz10 HB7.out.size) (fun k hk => by cases hk; exact Nat.le_refl _)
                                        clear ht11 hg11 HT7 HB7 HM
                                        go_wp2_with fail
                                        refine HE.out.mono ?_
                                        rintro e w12 ⟨rfl, rfl⟩
                                        go_wp2_with fail
                                        refine HL.out.mono ?_
                                        rintro e w13 ⟨rfl, rfl⟩
                                        go_wp2
                                        go_roundw
                                        case rel => exact ⟨j + 1, by omega, by go_num, HT11, HB11⟩
                                        case measure => simp [intOf]; omega
                                      | some y =>
                                        simp only [Option.getD_some, Option.isSome_some] at hlk hyw
                                        by_cases hxy : x < y
                                        · obtain ⟨w11, hrun, ht11, hg11⟩ := hstore y hyw
                                          have HWj : Hid (W (j + 1) = upd (W j) (nm s) y) := by
                                            show W (j + 1) = _
                                            rw [hWj, topOf, if_neg (by omega)]
                                          clear hWj hstore hyw hxw
                                          have HT11 : Hid (Tab w11 wb (m + (j + 1)) (W (j + 1))) := by
                                            show Tab _ _ _ _
                                            rw [HWj.out]
                                            exact ht11
                                          have HB11 : Hid (Below wb w10 w11) := HB7.out.grown hg11 (Nat.le_trans hz10 HB7.out.size) (fun k hk => by cases hk; exact Nat.le_refl _)
                                          clear ht11 hg11 HT7 HB7 HM
                                          go_wp2_with fail
                                          refine HE.out.mono ?_
                                          rintro e w12 ⟨rfl, rfl⟩
                                          go_wp2_with fail
                                          refine HL.out.mono ?_
                                          rintro e w13 ⟨rfl, rfl⟩
                                          go_wp2
                                          go_roundw
                                          case rel => exact ⟨j + 1, by omega, by go_num, HT11, HB11⟩
                                          case measure => simp [intOf]; omega
                                        · obtain ⟨w11, hrun, ht11, hg11⟩ := hstore x hxw
                                          have HWj : Hid (W (j + 1) = upd (W j) (nm s) x) := by
                                            show W (j + 1) = _
                                            rw [hWj, topOf]
                                            by_cases h : y < x
                                            · rw [if_pos h]
                                            · rw [if_neg h, show y = x from by omega]
                                          clear hWj hstore hyw hxw
                                          have HT11 : Hid (Tab w11 wb (m + (j + 1)) (W (j + 1))) := by
                                            show Tab _ _ _ _
                                            rw [HWj.out]
                                            exact ht11
                                          have HB11 : Hid (Below wb w10 w11) := HB7.out.grown hg11 (Nat.le_trans hz10 HB7.out.size) (fun k hk => by cases hk; exact Nat.le_refl _)
                                          clear ht11 hg11 HT7 HB7 HM
                                          go_wp2_with fail
                                          refine HE.out.mono ?_
                                          rintro e w12 ⟨rfl, rfl⟩
                                          go_wp2_with fail
                                          refine HL.out.mono ?_
                                          rintro e w13 ⟨rfl, rfl⟩
                                          go_wp2
                                          go_roundw
                                          case rel => exact ⟨j + 1, by omega, by go_num, HT11, HB11⟩
                                          case measure => simp [intOf]; omega
                                  · have hjn : n = j := by omega
                                    subst hjn
                                    have TWr : Hid (Two self mp m1 i1 (i1 + 1) m2 i2 (i2 + 1) wr l2 l2 (m + n) (m + n) S S (F n) (F n)) := TW10.out.below HB7.out (by omega)
                                    have TAr : Hid (Tab wr wb (m + n) (F n)) := by have h := HT7.out; rw [WE.out] at h; exact h
                                    have hin : ∀ i, i < m → ∃ x, F n (nm (so i)) = some x := by
                                      intro i hi
                                      obtain ⟨x, hx⟩ := seen_has (fun i => nm (so i)) ST m i hi
                                      rw [HF.out]
                                      exact fwd_has (by rw [HM0.out]; exact hx) n
                                    have r3 := (R3.out.below HBr.out (Nat.le_refl _)).take hm3
                                    have r5 := (R5.out.below HBr.out (Nat.le_refl _)).take hn5
                                    have HS1 : Hid (Calls Try.prog 12 #[.map (some m1), .map (some wb), .slice a3 l3 c3, .int .i64 m, .slice a5 l5 c5, .int .i64 n] wr fun e w'' => e = .returned (.bool true) ∧ w'' = wr) :=
                                      same_any m1 wb (m + n) (m + n) (F n) a3 a5 l3 c3 m l5 c5 n so ss wr TWr.out.ta1 TAr.out r3 r5 hm3 hn5 (by omega) (by omega) hin
                                    have HS2 : Hid (Calls Try.prog 12 #[.map (some m2), .map (some wb), .slice a3 l3 c3, .int .i64 m, .slice a5 l5 c5, .int .i64 n] wr fun e w'' => e = .returned (.bool true) ∧ w'' = wr) :=
                                      same_any m2 wb (m + n) (m + n) (F n) a3 a5 l3 c3 m l5 c5 n so ss wr TWr.out.ta2 TAr.out r3 r5 hm3 hn5 (by omega) (by omega) hin
                                    have HZ1 : Hid (Calls Try.prog 13 #[.pointer (some ⟨i1 + 1, 0, none⟩)] wr fun e w'' => e = .returned (.map (some m1)) ∧ w'' = wr) := zzseen_any (i1 + 1) i1 m1 self mp wr TWr.out.st1
                                    have HZ2 : Hid (Calls Try.prog 13 #[.pointer (some ⟨i2 + 1, 0, none⟩)] wr fun e w'' => e = .returned (.map (some m2)) ∧ w'' = wr) := zzseen_any (i2 + 1) i2 m2 self mp wr TWr.out.st2
                                    clear hin r3 r5 TWr TAr HT7
                                    go_wp2_with fail
                                    refine HZ1.out.mono ?_
                                    rintro e w20 ⟨rfl, rfl⟩
                                    go_wp2_with fail
                                    refine HS1.out.mono ?_
                                    rintro e w21 ⟨rfl, rfl⟩
                                    go_wp2_with fail
                                    refine HZ2.out.mono ?_
                                    rintro e w22 ⟨rfl, rfl⟩
                                    go_wp2_with fail
                                    refine HS2.out.mono ?_
                                    rintro e w23 ⟨rfl, rfl⟩
                                    go_wp2
                                    go_ret
                                    exact ⟨rfl, HBr.out⟩

end Go.Proofs.Qxb6617562a
