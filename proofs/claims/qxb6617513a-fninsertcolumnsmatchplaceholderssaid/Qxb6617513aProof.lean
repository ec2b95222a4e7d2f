/-
  Seat b6617513a. 'Rows.FnInsertColumnsMatchPlaceholdersSaid' proved: the law's walk, the row's step, the statement.
-/
import Derived.Test.Qxb6617513aGot
import Derived.ProofKit
import Derived.OpenShut
import Derived.ShutString
import Derived.Deep.QuietTactic
import Derived.BigQuiet
namespace Go.Proofs.Qxb6617513a
open Go.ChangeShapes Go.WideShapes Go.ChangeAt Go.RowKit
open Go.ChangeMaps (open_string shut_string)

set_option maxHeartbeats 2000000 in
set_option maxRecDepth 100000 in
theorem law_any (t c a2 a3 a4 : ByteArray) (w : World) (h0 : t.size ≤ 9223372036854775807) (h1 : c.size ≤ 9223372036854775807) (h2 : a2.size ≤ 9223372036854775807) (h3 : a3.size ≤ 9223372036854775807) (h4 : a4.size ≤ 9223372036854775807) :
    Calls Try.prog 3 #[.string t, .string c, .string a2, .string a3, .string a4] w fun e w' => e = .returned (.bool true) ∧ Below w.heap.size w w' := by
  go_enter Try.func3, Try.ntmps3
  go_wp2_with fail
  refine (bytes_any t c a2 a3 a4 w h0 h1 h2 h3 h4).mono ?_
  rintro e w' ⟨⟨r, rfl⟩, rfl⟩
  cases r
  · go_wp2
    go_ret
    exact ⟨rfl, Below.refl _ _⟩
  by_cases b0 : (65536 : Int) < (t.size : Int)
  · go_wp2
    go_ret
    exact ⟨rfl, Below.refl _ _⟩
  by_cases b1 : (65536 : Int) < (c.size : Int)
  · go_wp2
    go_ret
    exact ⟨rfl, Below.refl _ _⟩
  by_cases b2 : (65536 : Int) < (a2.size : Int)
  · go_wp2
    go_ret
    exact ⟨rfl, Below.refl _ _⟩
  by_cases b3 : (65536 : Int) < (a3.size : Int)
  · go_wp2
    go_ret
    exact ⟨rfl, Below.refl _ _⟩
  by_cases b4 : (65536 : Int) < (a4.size : Int)
  · go_wp2
    go_ret
    exact ⟨rfl, Below.refl _ _⟩
  have ht : t.size ≤ 65536 := by omega
  have hc : c.size ≤ 65536 := by omega
  have c40 := hasByte_any t 40 w' h0
  have c44 := hasByte_any c 44 w' h1
  have c41 := hasByte_any c 41 w' h1
  obtain ⟨r40, e40⟩ : ∃ r, r = hasB t 40 := ⟨_, rfl⟩
  obtain ⟨r44, e44⟩ : ∃ r, r = hasB c 44 := ⟨_, rfl⟩
  obtain ⟨r41, e41⟩ : ∃ r, r = hasB c 41 := ⟨_, rfl⟩
  rw [← e40] at c40
  rw [← e44] at c44
  rw [← e41] at c41
  have E40 : Hid (r40 = hasB t 40) := e40
  have E44 : Hid (r44 = hasB c 44) := e44
  have E41 : Hid (r41 = hasB c 41) := e41
  have C40 : Hid (Calls Try.prog 5 #[.string t, .int .u8 40] w' fun e w'' => e = .returned (.bool r40) ∧ w'' = w') := c40
  have C44 : Hid (Calls Try.prog 5 #[.string c, .int .u8 44] w' fun e w'' => e = .returned (.bool r44) ∧ w'' = w') := c44
  have C41 : Hid (Calls Try.prog 5 #[.string c, .int .u8 41] w' fun e w'' => e = .returned (.bool r41) ∧ w'' = w') := c41
  clear c40 c44 c41 e40 e44 e41
  go_wp2_with fail
  refine C40.out.mono ?_
  rintro e w2 ⟨rfl, rfl⟩
  cases r40
  · go_wp2_with fail
    refine C44.out.mono ?_
    rintro e w3 ⟨rfl, rfl⟩
    cases r44
    · go_wp2_with fail
      refine C41.out.mono ?_
      rintro e w4 ⟨rfl, rfl⟩
      cases r41
      · go_wp2_with fail
        have z1 := zzinsert_no t c a2 a3 a4 w4 ht hc
        have z2 := fun wx => zzinsert_yes t c a2 a3 a4 wx ht hc
        have z3 := fun wx => got_no t c wx ht hc E40.out.symm E44.out.symm E41.out.symm
        have z4 := fun wx => got_yes t c wx ht hc E40.out.symm E44.out.symm E41.out.symm
        generalize insertText t c ⟨#[]⟩ ⟨#[]⟩ = T1 at z1 z3
        generalize insertText t c ⟨#[44, 32, 100, 97, 121, 115, 95, 97, 100, 100, 101, 100]⟩ ⟨#[44, 32, 110, 117, 108, 108, 105, 102, 40, 36, 49, 48, 44, 32, 48, 41]⟩ = T2 at z2 z4
        have Z2 : Hid (∀ wx, Calls Try.prog 6 #[.string t, .string c, .string a2, .string a3, .string a4, .bool true] wx fun e w' => e = .returned (.string T2) ∧ Below wx.heap.size wx w') := z2
        have Z3 : Hid (∀ wx, Calls Try.prog 7 #[.string T1] wx fun e w' => Got wx t c 9 e w') := z3
        have Z4 : Hid (∀ wx, Calls Try.prog 7 #[.string T2] wx fun e w' => Got wx t c 10 e w') := z4
        obtain ⟨N, hN⟩ : ∃ N : Nat → ByteArray, N = nm c := ⟨_, rfl⟩
        have N0 : N 0 = c := by rw [hN]; exact nm_zero c
        have N9 : N 9 = ⟨#[100, 97, 121, 115, 95, 97, 100, 100, 101, 100]⟩ := by rw [hN]; exact nm_nine c
        have HNN : Hid (N = nm c) := hN
        refine z1.mono ?_
        rintro e w5 ⟨rfl, hb5⟩
        have HB5 : Hid (Below w4.heap.size w4 w5) := hb5
        clear z1 z2 z3 z4 hN hb5 E40 E44 E41 C40 C44 C41
        go_wp2_with fail
        refine (Z2.out _).mono ?_
        rintro e w6 ⟨rfl, hb6⟩
        have HB6 : Hid (Below w4.heap.size w4 w6) := HB5.out.trans (hb6.mono HB5.out.size)
        clear hb6 HB5 Z2
        go_wp2_with fail
        refine (Z3.out _).mono ?_
        rintro e w7 ⟨gc1, cc1, gn1, cn1, rfl, k1, k2, k3, k4, k5⟩
        have HB7 : Hid (Below w4.heap.size w4 w7) := HB6.out.trans (k5.mono HB6.out.size)
        have K1 : Hid (∀ j, j < 9 → w7.cell? ⟨gc1, j, none⟩ = some (.string (N j))) := by intro j hj; rw [HNN.out]; exact k1 j hj
        have K2 : Hid (∀ j, j < 9 → w7.cell? ⟨gn1, j, none⟩ = some (.int .i64 ((j : Int) + 1))) := k2
        clear k1 k2 k5 HB6 Z3
        go_wp2_with fail
        refine (Z4.out _).mono ?_
        rintro e w8 ⟨gc2, cc2, gn2, cn2, rfl, l1, l2, l3, l4, l5⟩
        have HB8 : Hid (Below w4.heap.size w4 w8) := HB7.out.trans (l5.mono HB7.out.size)
        have L1 : Hid (∀ j, j < 10 → w8.cell? ⟨gc2, j, none⟩ = some (.string (N j))) := by intro j hj; rw [HNN.out]; exact l1 j hj
        have L2 : Hid (∀ j, j < 10 → w8.cell? ⟨gn2, j, none⟩ = some (.int .i64 ((j : Int) + 1))) := l2
        have M1 : Hid (∀ j, j < 9 → w8.cell? ⟨gc1, j, none⟩ = some (.string (N j))) := fun j hj => (l5.cell (by exact k3)).trans (K1.out j hj)
        have M2 : Hid (∀ j, j < 9 → w8.cell? ⟨gn1, j, none⟩ = some (.int .i64 ((j : Int) + 1))) := fun j hj => (l5.cell (by exact k4)).trans (K2.out j hj)
        have hg1 : gc1 < w8.heap.size := Nat.lt_of_lt_of_le k3 l5.size
        have hg2 : gn1 < w8.heap.size := Nat.lt_of_lt_of_le k4 l5.size
        have hc0 : w8.cell? ⟨gc1, 0, none⟩ = some (.string c) := by rw [← N0]; exact M1.out 0 (by omega)
        clear l1 l2 l5 k3 k4 K1 K2 HB7 Z4 HNN N0
        have N9' : Hid (N 9 = ⟨#[100, 97, 121, 115, 95, 97, 100, 100, 101, 100]⟩) := N9
        clear N9
        go_wp2
        go_loopw [21] (fun i wr => ∃ k : Nat, k ≤ 9 ∧ i = .int .i64 k ∧ Hid (Below w8.heap.size w8 wr)) (fun i _ => 9 - (intOf i).toNat)
        case atStart => exact ⟨0, by omega, rfl, Below.refl _ _⟩
        case round =>
          obtain ⟨k, hk, rfl, HBr⟩ := hrel
          by_cases hlt : k < 9
          · obtain ⟨x, hx⟩ : ∃ x, x = N k := ⟨_, rfl⟩
            have q1 : wr.cell? ⟨gc1, k, none⟩ = some (.string x) := by rw [hx]; exact (HBr.out.cell (by exact hg1)).trans (M1.out k hlt)
            have q2 : wr.cell? ⟨gc2, k, none⟩ = some (.string x) := by rw [hx]; exact (HBr.out.cell (by exact l3)).trans (L1.out k (by omega))
            have i1 : (k : Int) < 9 := by omega
            have i2 : (k : Int) < 10 := by omega
            have i3 : (0 : Int) ≤ (k : Int) := by omega
            clear hx
            go_wp2
            go_quiet (fail)
            go_wp2
            go_roundw
            case rel => exact ⟨k + 1, by omega, by go_num, below_drewN HBr.out _⟩
            case measure => simp [intOf]; omega
          · have q9 : wr.cell? ⟨gc2, 9, none⟩ = some (.string ⟨#[100, 97, 121, 115, 95, 97, 100, 100, 101, 100]⟩) := by rw [← N9'.out]; exact (HBr.out.cell (by exact l3)).trans (L1.out 9 (by omega))
            have u1 := countsUp_yes gn1 9 cn1 wr (by omega) (fun j hj => (HBr.out.cell (by exact hg2)).trans (M2.out j hj))
            have u2 := countsUp_yes gn2 10 cn2 wr (by omega) (fun j hj => (HBr.out.cell (by exact l4)).trans (L2.out j hj))
            have U1 : Hid (Calls Try.prog 8 #[.slice (some ⟨gn1, 0, none⟩) 9 cn1, .int .i64 9] wr fun e w' => e = .returned (.bool true) ∧ w' = wr) := u1
            have U2 : Hid (Calls Try.prog 8 #[.slice (some ⟨gn2, 0, none⟩) 10 cn2, .int .i64 10] wr fun e w' => e = .returned (.bool true) ∧ w' = wr) := u2
            have hk9 : (9 : Int) ≤ (k : Int) := by omega
            clear u1 u2
            go_wp2_with fail
            refine U1.out.mono ?_
            rintro e w9 ⟨rfl, rfl⟩
            go_wp2_with fail
            refine U2.out.mono ?_
            rintro e w10 ⟨rfl, rfl⟩
            go_wp2
            go_ret
            exact ⟨rfl, HB8.out.trans (HBr.out.mono HB8.out.size)⟩
      · go_wp2
        go_ret
        exact ⟨rfl, Below.refl _ _⟩
    · go_wp2
      go_ret
      exact ⟨rfl, Below.refl _ _⟩
  · go_wp2
    go_ret
    exact ⟨rfl, Below.refl _ _⟩

theorem own : ownKnob Try.prog.godebug = none := by kernel_rfl

set_option maxRecDepth 100000 in
theorem lifted (os : Os) (started : os.Started) (H : Type) (enc : TypeId × Value → H) :
    ReturnsInHanded {} Try.checked os 3 .any (Rows.fnInsertColumnsMatchPlaceholdersSpec.pre6 enc Try.prog Try.f3 Rows.fnInsertColumnsMatchPlaceholdersRow.domain false) (Rows.fnInsertColumnsMatchPlaceholdersSpec.post enc Try.prog Try.f3 false true false false) := by
  refine returnsInHanded_of_change (C := Try.checked) own started (by kernel_rfl) Try.func3
    (ChangeSpec.witness6 (enc := enc) (C := Try.checked) false ⟨#[], #[.string ByteArray.empty, .string ByteArray.empty, .string ByteArray.empty, .string ByteArray.empty, .string ByteArray.empty], []⟩ 8 (by kernel_rfl) (by kernel_rfl) (by kernel_rfl) (by kernel_rfl)) ?_
  intro W base args ds gs before hval0 hW hcnd _
  have hval : ∀ (j : Nat) t v, Try.f3.params[j]? = some t → args[j]? = some v → Value.okWide Try.prog W .any base t v := hval0
  have hW' := hW
  obtain ⟨p, q, hA0, hV, rfl, hfz, hnd⟩ := hW
  have hA : DataW.TrodAll enc Try.prog W 0 (fun _ => true) true Try.f3.params.toList args.toList ds p := hA0
  rw [Try.params3] at hA hval
  obtain ⟨v0, vs0, d0, ds0, p0, q0, hargs, rfl, rfl, h0, r0⟩ := trodAll_cons hA
  obtain ⟨v1, vs1, d1, ds1, p1, q1, rfl, rfl, rfl, h1, r1⟩ := trodAll_cons r0
  obtain ⟨v2, vs2, d2, ds2, p2, q2, rfl, rfl, rfl, h2, r2⟩ := trodAll_cons r1
  obtain ⟨v3, vs3, d3, ds3, p3, q3, rfl, rfl, rfl, h3, r3⟩ := trodAll_cons r2
  obtain ⟨v4, vs4, d4, ds4, p4, q4, rfl, rfl, rfl, h4, r4⟩ := trodAll_cons r3
  obtain ⟨rfl, rfl, rfl⟩ := trodAll_nil r4
  obtain rfl : args = #[v0, v1, v2, v3, v4] := by cases args; simp_all
  obtain ⟨rfl, rfl⟩ := trodVars_none hV
  obtain ⟨a0, rfl, rfl, rfl, w0⟩ := open_string Try.underlying9 (hval 0 9 v0 rfl rfl) h0
  obtain ⟨a1, rfl, rfl, rfl, w1⟩ := open_string Try.underlying9 (hval 1 9 v1 rfl rfl) h1
  obtain ⟨a2, rfl, rfl, rfl, w2⟩ := open_string Try.underlying9 (hval 2 9 v2 rfl rfl) h2
  obtain ⟨a3, rfl, rfl, rfl, w3⟩ := open_string Try.underlying9 (hval 3 9 v3 rfl rfl) h3
  obtain ⟨a4, rfl, rfl, rfl, w4⟩ := open_string Try.underlying9 (hval 4 9 v4 rfl rfl) h4
  clear hA0 hval0
  refine (law_any a0 a1 a2 a3 a4 W w0 w1 w2 w3 w4).mono fun e W' ⟨he, bel⟩ => ?_
  subst he
  exact ⟨_, rfl, _, _, _, [], _, [], hW', trodAll_mk1 (shut_bool Try.underlying4 _), (trodAll_cons_mk (shut_string Try.underlying9 w0) (trodAll_cons_mk (shut_string Try.underlying9 w1) (trodAll_cons_mk (shut_string Try.underlying9 w2) (trodAll_cons_mk (shut_string Try.underlying9 w3) (trodAll_cons_mk (shut_string Try.underlying9 w4) trodAll_mk0))))), rfl, bel.frame _, fun h => by cases h⟩

theorem over : Rows.fnInsertColumnsMatchPlaceholdersRow.holds Try.pinned (OpenSpec.ofChange Rows.fnInsertColumnsMatchPlaceholdersSpec) :=
  OpenClaim.holds_of_wide 3 Try.f3 rfl rfl rfl rfl rfl rfl rfl ⟨rfl, rfl, rfl, rfl, rfl⟩ rfl rfl rfl rfl rfl (by kernel_rfl) Try.func3 (by kernel_rfl)
    (of_decide_eq_true (by kernel_rfl)) (by unfold Func.isWrapper; first | (rw [if_pos (by decide +kernel)]; kernel_rfl) | (rw [if_neg (by decide +kernel)]; exact ⟨rfl, rfl⟩))
    (fun os started H enc _ => lifted os started H enc)

/-- THE STATEMENT. -/
theorem proved : Rows.FnInsertColumnsMatchPlaceholdersSaid := over
#print axioms proved

end Go.Proofs.Qxb6617513a
