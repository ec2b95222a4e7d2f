/-
  Seat b6617480a. The walk of the law itself (function 3), out of its callees' contracts.
-/
import Derived.Test.Qxb6617480aBytes
import Derived.Test.Qxb6617480aJoin
import Derived.Test.Qxb6617480aOr
import Derived.Test.Qxb6617480aPlain
import Derived.Laws.CopyOwn
import Derived.Deep.RegionHeld3
namespace Go.Proofs.Qxb6617480a
open Go.RowKit

theorem Try.info9 : (Try.prog.info? 9).map (fun i => (i.zero, i.size, i.bytes)) = some (some (.string ByteArray.empty), 1, 16) := by kernel_rfl
theorem Try.size9 : (Try.prog.info? 9).map (·.size) = some 1 := by kernel_rfl

/-- Texts as cells. -/
def scs (l : List ByteArray) : List Value := l.map Value.string
theorem scs_length (l : List ByteArray) : (scs l).length = l.length := by simp [scs]
theorem scs_oneCell (l : List ByteArray) : ∀ u ∈ scs l, u.oneCell' = true := by
  intro u hu
  obtain ⟨_, _, rfl⟩ := List.mem_map.1 hu
  rfl
theorem scs_at (l : List ByteArray) (j : Nat) (u : Value) (h : (scs l)[j]? = some u) : j < l.length ∧ u = .string (l.getD j ByteArray.empty) := by
  have hj : j < (scs l).length := (List.getElem?_eq_some_iff.1 h).1
  rw [scs_length] at hj
  refine ⟨hj, ?_⟩
  simp [scs, List.getElem?_eq_getElem hj] at h
  simp [List.getD, hj, h]

/-- The copy's cells, read one by one. -/
theorem cell_of_row {w : World} {g : Nat} {t : TypeId} {l : List ByteArray} (h : w.heap[g]? = some (.cells (scs l).toArray t (0, 0))) :
    ∀ j, j < l.length → w.cell? ⟨g, j, none⟩ = some (.string (l.getD j ByteArray.empty)) := by
  intro j hj
  simp [World.cell?, h, scs, hj]

theorem splice_all {α : Type} (L cs : List α) (h : cs.length = L.length) : splice L 0 cs = cs := by
  simp [splice, h]

theorem own_block {w : World} {B g n cap : Nat} {xs : List Value} (h : w.ownsRow B 9 1 (.slice (some ⟨g, 0, none⟩) n cap) n xs) : ∃ cur : List Value, cur.length = cap ∧ w.heap[g]? = some (.cells cur.toArray 9 (0, 0)) := by
  obtain ⟨_, h2⟩ := h
  rcases h2 with ⟨h3, _⟩ | ⟨g', cap', cur, hv, _, hh, _, _, hs, _⟩
  · simp at h3
  · simp at hv
    obtain ⟨rfl, rfl⟩ := hv
    exact ⟨cur.toList, by simpa using hs, by simpa using hh⟩

theorem cells_cut {wx : World} {g len o : Nat} {ss : List ByteArray} (hc : ∀ j, j < len → wx.cell? ⟨g, j, none⟩ = some (.string (ss.getD j ByteArray.empty))) (hL : ss.length = len) :
    ∀ (j : Nat) x, ((ss.take (len - 1)).drop o)[j]? = some x → wx.cell? ⟨g, o + j, none⟩ = some (.string x) := by
  intro j x hx
  rw [List.getElem?_drop, List.getElem?_take] at hx
  split at hx
  · rename_i hlt
    rw [hc (o + j) (by omega)]
    simp [List.getD, hx]
  · cases hx

theorem or_at (hJ : JoinSaid) (g o len : Nat) (ss : List ByteArray) (y : ByteArray) (wx : World) (hg : g < wx.heap.size) (hL : ss.length = len) (hlen : len ≤ 65536) (hl : Lib.lens (pl ss) ≤ 1048576) (ho : o + 2 ≤ len)
    (hy : y = ss.getD (len - 1) ByteArray.empty) (hys : y.size ≤ 1048576) (hc : ∀ j, j < len → wx.cell? ⟨g, j, none⟩ = some (.string (ss.getD j ByteArray.empty))) :
    Calls Try.prog 5 #[.slice (some ⟨g, o, none⟩) (len - o) (len - o)] wx fun e w' => e = .returned (.string (orL ((ss.take (len - 1)).drop o) y)) ∧ Below wx.heap.size wx w' := by
  have hxl : ((ss.take (len - 1)).drop o).length = len - 1 - o := by rw [List.length_drop, List.length_take]; omega
  have hll : Lib.lens (pl ((ss.take (len - 1)).drop o)) ≤ 1048576 := by
    have h1 := lens_split ss (len - 1)
    have h2 := lens_split (ss.take (len - 1)) o
    omega
  have hj := J_le ((ss.take (len - 1)).drop o)
  have h := zzor_many hJ g o (len - o) (len - 1 - o) ((ss.take (len - 1)).drop o) y wx hg hxl.symm (by omega) (by omega) (by omega) (cells_cut hc hL) (by rw [show o + (len - 1 - o) = len - 1 from by omega, hc (len - 1) (by omega), hy]) (by show (Lib.join (pl ((ss.take (len - 1)).drop o)) [44, 32]).length ≤ _; rw [hxl] at hj; omega) (by omega)
  rw [show len - 1 - o + 1 = len - o from by omega] at h
  exact h

theorem orL_size (xs : List ByteArray) (y : ByteArray) : (orL xs y).size = (Lib.join (pl xs) [44, 32]).length + 4 + y.size := by
  show ((Lib.join (pl xs) [44, 32] ++ [32, 111, 114, 32] ++ y.data.toList).toArray).size = _
  rw [List.size_toArray]
  simp
  omega

theorem joinC_at (g k len : Nat) (ss : List ByteArray) (wx : World) (hg : g < wx.heap.size) (hL : ss.length = len) (hlen : len ≤ 65536) (hl : Lib.lens (pl ss) ≤ 1048576) (hk : k ≤ len)
    (hc : ∀ j, j < len → wx.cell? ⟨g, j, none⟩ = some (.string (ss.getD j ByteArray.empty))) :
    Calls Try.prog 6 #[.slice (some ⟨g, 0, none⟩) k len] wx fun e w' => e = .returned (.string ⟨(Lib.join (pl (ss.take k)) [44, 32]).toArray⟩) ∧ Below wx.heap.size wx w' := by
  have hll := lens_split ss k
  have hj := J_le (ss.take k)
  rw [List.length_take] at hj
  exact joinC_walk g 0 k len ss (fun j => Lib.join (pl (ss.take j)) [44, 32]) wx hg (by omega) (fun j hj => by rw [Nat.zero_add]; exact hc j (by omega)) (J_zero ss) (fun h => J_one ss (by omega)) (fun j h0 h1 => J_succ ss j h0 (by omega)) (by show (Lib.join (pl (ss.take k)) [44, 32]).length ≤ _; omega) (J_mono ss k (by omega))

set_option maxHeartbeats 1000000 in
/-- THE LAW at a slice that holds something. -/
theorem law_some (hJ : JoinSaid) (b off len cap : Nat) (ss : List ByteArray) (x : Int) (w : World) (hb : b < w.heap.size) (hss : ss.length = len) (hpos : 1 ≤ len) (hlen : len ≤ 9223372036854775807)
    (hx1 : -9223372036854775808 ≤ x) (hx2 : x ≤ 9223372036854775807)
    (hcell : ∀ j, j < len → w.cell? ⟨b, off + j, none⟩ = some (.string (ss.getD j ByteArray.empty))) (hsz : ∀ j, (ss.getD j ByteArray.empty).size ≤ 9223372036854775807) :
    Calls Try.prog 3 #[.slice (some ⟨b, off, none⟩) len cap, .int .i64 x] w fun e w' => e = .returned (.bool true) ∧ Below w.heap.size w w' := by
  obtain ⟨i0, hi, hz0, hz1, hz2⟩ := info_parts Try.info9
  have HC : Hid (∀ j, j < len → w.cell? ⟨b, off + j, none⟩ = some (.string (ss.getD j ByteArray.empty))) := hcell
  have HZ : Hid (∀ j, (ss.getD j ByteArray.empty).size ≤ 9223372036854775807) := hsz
  have HL : Hid (ss.length = len) := hss
  clear hcell hsz hss
  have hnn := fun w n c => run_neq_slice_nil_any (P := Try.prog) w 22 9 (some ⟨b, off, none⟩) n c 0 0 Try.underlying22
  go_enter Try.func3, Try.ntmps3
  go_wp2_with fail
  refine (bytes_some b off len cap ss x w hlen HC.out HZ.out).mono ?_
  rintro e w' ⟨⟨r, rfl, hr⟩, rfl⟩
  have HR : Hid (r = true → ∀ j, j < len → (ss.getD j ByteArray.empty).size ≤ 1048576) := hr
  clear hr
  cases r
  · go_wp2
    go_ret
    exact ⟨rfl, Below.refl _ _⟩
  have HR1 : Hid (∀ j, j < len → (ss.getD j ByteArray.empty).size ≤ 1048576) := HR.out rfl
  clear HR
  by_cases hbig : (65536 : Int) < (len : Int)
  · go_wp2
    go_ret
    exact ⟨rfl, Below.refl _ _⟩
  go_wp2_with (at_make; refine wpList_make_full _ rfl _ _ 22 rfl w'.heap.size 9 i0 (.string ByteArray.empty) 1 Try.underlying22 hi hz0 hz1 _ _ _ _ len rfl rfl (by omega) (by omega) (by rw [hz2]; omega) (by unfold maxLen; omega) (Nat.le_refl _) ?_)
  intro w1 hown1 hgrow1
  have hbel1 : Below w'.heap.size w' w1 := (Below.refl _ _).grown hgrow1 (Nat.le_refl _) (fun j hj => by cases hj)
  obtain ⟨cur, hcl, hcur⟩ := own_block hown1
  have HG1 : Hid (w1.heap[w'.heap.size]? = some (.cells cur.toArray 9 (0, 0))) := hcur
  have HB1 : Hid (Below w'.heap.size w' w1) := hbel1
  have HCL : Hid (cur.length = len) := hcl
  clear hown1 hgrow1 hcur hbel1 hcl
  go_wp2_with (refine wpList_copy_splice rfl (.tmp 24) (.tmp 25) 22 22 rfl 9 Try.underlying22 Try.size9 _ _ _ _ _ _ rfl rfl w'.heap.size 0 cur 9 HG1.out (scs ss) ?d1 (fun _ => ⟨rfl, ⟨b, off, none⟩, rfl, ?d2⟩) ?d3 (scs_oneCell ss) w'.heap.size w' HB1.out (Nat.le_refl _) ?_)
  case d1 => rw [scs_length, HL.out]; exact (Nat.min_self _).symm
  case d2 =>
    intro j v hj
    obtain ⟨hj1, rfl⟩ := scs_at ss j v hj
    rw [Addr.add_lit, HB1.out.cell (by exact hb)]
    exact HC.out j (by rw [← HL.out]; exact hj1)
  case d3 => rw [scs_length, HL.out, HCL.out]; omega
  intro w2 HG2 hB2
  have HD : Hid (∀ j, j < len → w2.cell? ⟨w'.heap.size, j, none⟩ = some (.string (ss.getD j ByteArray.empty))) := by
    intro j hj
    have hg := HG2.out
    rw [splice_all _ _ (by rw [scs_length, HL.out, HCL.out])] at hg
    exact cell_of_row hg j (by rw [HL.out]; exact hj)
  have hgs : w'.heap.size < w2.heap.size := by
    have := HG2.out
    exact (Array.getElem?_eq_some_iff.1 this).1
  have HB2 : Hid (Below w'.heap.size w' w2) := hB2
  clear HG2 hB2 HG1 HB1 HCL cur hnn
  obtain ⟨T, hT⟩ : ∃ T : Nat → Nat, T = fun k => Lib.lens (pl (ss.take k)) := ⟨_, rfl⟩
  have T0 : Hid (T 0 = 0) := by show T 0 = 0; rw [hT]; simp [pl, Lib.lens]
  have TS : Hid (∀ k, k < len → T (k + 1) = T k + (ss.getD k ByteArray.empty).size) := by intro k hk; rw [hT]; exact lens_succ ss k (by rw [HL.out]; exact hk)
  have TN : Hid (T len = Lib.lens (pl ss)) := by show T len = _; rw [hT, ← HL.out]; simp
  clear hT
  go_wp2
  go_loop [6, 7] (fun t i => ∃ k : Nat, k ≤ len ∧ i = .int .i64 k ∧ 16 * len + T k ≤ 1048576 ∧ t = .int .i64 (16 * (len : Int) + (T k : Int))) (fun _ i => len - (intOf i).toNat)
  case atStart => exact ⟨0, Nat.zero_le _, rfl, by rw [T0.out]; omega, by rw [T0.out]; go_num⟩
  case round =>
    obtain ⟨k, hk, rfl, hsum, rfl⟩ := hrel
    by_cases hlt : k < len
    · obtain ⟨s, hs⟩ : ∃ s, s = ss.getD k ByteArray.empty := ⟨_, rfl⟩
      have hc := HD.out k hlt
      have hz := HR1.out k hlt
      have ht := TS.out k hlt
      rw [← hs] at hc hz ht
      have Ht : Hid (T (k + 1) = T k + s.size) := ht
      clear hs ht
      go_wp2
      · go_ret
        exact ⟨rfl, HB2.out⟩
      · go_round
        case rel => exact ⟨k + 1, by omega, by go_num, by rw [Ht.out]; omega, by rw [Ht.out]; go_num⟩
        case measure => simp [intOf]; omega
    · have hkn : len = k := by omega
      subst hkn
      obtain ⟨y, hy⟩ : ∃ y, y = ss.getD (len - 1) ByteArray.empty := ⟨_, rfl⟩
      have hcl := HD.out (len - 1) (by omega)
      have hyl := HR1.out (len - 1) (by omega)
      rw [← hy] at hcl hyl
      have HY : Hid (y = ss.getD (len - 1) ByteArray.empty) := hy
      clear hy hlt hk
      have hn0 : ((len : Int) == 0) = false := by simp; omega
      go_wp2_with fail
      rw [show len - (len - 1) = 1 from by omega]
      refine (zzor_one w'.heap.size (len - 1) 1 y w2 hcl).mono ?_
      rintro e w3 ⟨rfl, rfl⟩
      by_cases hl2 : len < 2
      · go_wp2
        all_goals go_ret
        all_goals exact ⟨rfl, HB2.out⟩
      obtain ⟨x2, hx2e⟩ : ∃ x2, x2 = ss.getD (len - 2) ByteArray.empty := ⟨_, rfl⟩
      have hc2 := HD.out (len - 2) (by omega)
      have hxl := HR1.out (len - 2) (by omega)
      rw [← hx2e] at hc2 hxl
      have HN : Hid (Lib.lens (pl ss) ≤ 1048576) := by show Lib.lens (pl ss) ≤ 1048576; rw [← TN.out]; omega
      have hcap : len ≤ 65536 := by omega
      have HA : Hid (∀ wx : World, w'.heap.size < wx.heap.size → (∀ j, j < len → wx.cell? ⟨w'.heap.size, j, none⟩ = some (.string (ss.getD j ByteArray.empty))) →
          Calls Try.prog 5 #[.slice (some ⟨w'.heap.size, len - 2, none⟩) 2 2] wx fun e w'' => e = .returned (.string (x2 ++ ⟨#[32, 111, 114, 32]⟩ ++ y)) ∧ Below wx.heap.size wx w'') := by
        intro wx hgx hcx
        have h := or_at hJ w'.heap.size (len - 2) len ss y wx hgx HL.out hcap HN.out (by omega) HY.out hyl hcx
        rw [show len - (len - 2) = 2 from by omega] at h
        have e : (ss.take (len - 1)).drop (len - 2) = [x2] := by
          have hlt : len - 2 < ss.length := by rw [HL.out]; omega
          rw [show len - 1 = len - 2 + 1 from by omega, List.take_succ_eq_append_getElem hlt, List.drop_append_of_le_length (by simp; omega), hx2e, getD_of_lt ss _ hlt]
          simp
        rw [e, orL_one] at h
        exact h
      have ha1 := fun w => run_string_add_sum (P := Try.prog) w x2 ⟨#[32, 111, 114, 32]⟩ (by have : (⟨#[32, 111, 114, 32]⟩ : ByteArray).size = 4 := rfl; omega)
      have ha2 := fun w => run_string_add_sum (P := Try.prog) w (x2 ++ ⟨#[32, 111, 114, 32]⟩) y (by have : (⟨#[32, 111, 114, 32]⟩ : ByteArray).size = 4 := rfl; rw [ByteArray.size_append]; omega)
      have hwr : IntKind.i64.wrap ((len : Int) - 2) = (len : Int) - 2 := IntWalk.i64_in _ (by omega)
      have htn : ((len : Int) - 2).toNat = len - 2 := by omega
      have hp0 : (0 : Int) ≤ (len : Int) - 2 := by omega
      have hp1 : (len : Int) - 2 ≤ (len : Int) := by omega
      have hp2 : (len : Int) - 2 < (len : Int) := by omega
      have hp3 : len - (len - 2) = 2 := by omega
      have hp4 : ¬ len = len - 2 := by omega
      have hp5 : (2 : Int) ≤ (len : Int) := by omega
      clear hx2e
      go_wp2_with fail
      go_region_held3 (fun wq => wq.cell? ⟨w'.heap.size, len - 2, none⟩ = some (.string x2)) (first | go_keep | (rw [‹Below _ _ _›.cell (by assumption)]; assumption)) (first | (go_at_call 5; refine (HA.out w3.drew (by exact hgs) (fun j hj => HD.out j hj)).mono ?_; rintro e w4 ⟨rfl, hbel⟩))
      have HB4 : Hid (Below w'.heap.size w' w4) := (HB2.out.drew).trans (hbel.mono (by exact Nat.le_of_lt hgs))
      have HD4 : Hid (∀ j, j < len → w4.cell? ⟨w'.heap.size, j, none⟩ = some (.string (ss.getD j ByteArray.empty))) := fun j hj => (hbel.cell (by exact hgs)).trans (HD.out j hj)
      have hgs4 : w'.heap.size < w4.heap.size := Nat.lt_of_lt_of_le hgs hbel.size
      clear ha1 ha2 hwr htn hp0 hp1 hp2 hp3 hp4 hbel HD HB2 hgs hc2 hcl
      by_cases hk1 : 1 ≤ x
      · by_cases hk2 : x ≤ (len : Int) - 2
        · obtain ⟨k, rfl⟩ := Int.eq_ofNat_of_zero_le (show 0 ≤ x by omega)
          have hkl : k + 2 ≤ len := by omega
          obtain ⟨Jb, hJb⟩ : ∃ Jb : ByteArray, Jb = ⟨(Lib.join (pl (ss.take k)) [44, 32]).toArray⟩ := ⟨_, rfl⟩
          obtain ⟨Rb, hRb⟩ : ∃ Rb : ByteArray, Rb = orL ((ss.take (len - 1)).drop k) y := ⟨_, rfl⟩
          have hlk := lens_split ss k
          have hln := lens_split ss (len - 1)
          have hlm := lens_split (ss.take (len - 1)) k
          have hNo := HN.out
          have hLo := HL.out
          have hjs : Jb.size ≤ 2097152 := by
            rw [hJb]
            show ((Lib.join (pl (ss.take k)) [44, 32]).toArray).size ≤ _
            rw [List.size_toArray]
            have := J_le (ss.take k)
            rw [List.length_take] at this
            omega
          have hrs : Rb.size ≤ 4194304 := by
            rw [hRb, orL_size]
            have := J_le ((ss.take (len - 1)).drop k)
            rw [List.length_drop, List.length_take] at this
            omega
          have hWh : orL ((ss.take (len - 1)).drop 0) y = Jb ++ ⟨#[44, 32]⟩ ++ Rb := by
            rw [List.drop_zero, orL_cut (ss.take (len - 1)) y k (by omega) (by rw [List.length_take]; omega), List.take_take, Nat.min_eq_left (by omega), hJb, hRb]
          have h1 := or_at hJ w'.heap.size 0 len ss y w4 hgs4 HL.out hcap HN.out (by omega) HY.out hyl HD4.out
          rw [Nat.sub_zero, hWh] at h1
          have hb1 := fun w => run_string_add_sum (P := Try.prog) w Jb ⟨#[44, 32]⟩ (by have : (⟨#[44, 32]⟩ : ByteArray).size = 2 := rfl; omega)
          have hb2 := fun w => run_string_add_sum (P := Try.prog) w (Jb ++ ⟨#[44, 32]⟩) Rb (by have : (⟨#[44, 32]⟩ : ByteArray).size = 2 := rfl; rw [ByteArray.size_append]; omega)
          have H1 : Hid (Calls Try.prog 5 #[.slice (some ⟨w'.heap.size, 0, none⟩) len len] w4 fun e w'' => e = .returned (.string (Jb ++ ⟨#[44, 32]⟩ ++ Rb)) ∧ Below w4.heap.size w4 w'') := h1
          have HJb : Hid (Jb = ⟨(Lib.join (pl (ss.take k)) [44, 32]).toArray⟩) := hJb
          have HRb : Hid (Rb = orL ((ss.take (len - 1)).drop k) y) := hRb
          clear h1 hWh hJb hRb hlk hln hlm hNo hLo
          go_wp2_with fail
          refine H1.out.mono ?_
          rintro e w5 ⟨rfl, hb5⟩
          have HD5 : Hid (∀ j, j < len → w5.cell? ⟨w'.heap.size, j, none⟩ = some (.string (ss.getD j ByteArray.empty))) := fun j hj => (hb5.cell (by exact hgs4)).trans (HD4.out j hj)
          have hgs5 : w'.heap.size < w5.heap.size := Nat.lt_of_lt_of_le hgs4 hb5.size
          have HB5 : Hid (Below w'.heap.size w' w5) := HB4.out.trans (hb5.mono (Nat.le_of_lt hgs4))
          have h2 := or_at hJ w'.heap.size k len ss y w5 hgs5 HL.out hcap HN.out hkl HY.out hyl HD5.out
          rw [← HRb.out] at h2
          have H2 : Hid (Calls Try.prog 5 #[.slice (some ⟨w'.heap.size, k, none⟩) (len - k) (len - k)] w5 fun e w'' => e = .returned (.string Rb) ∧ Below w5.heap.size w5 w'') := h2
          clear h2 hb5 H1 HD4 HB4 hgs4
          go_wp2_with fail
          refine H2.out.mono ?_
          rintro e w6 ⟨rfl, hb6⟩
          have HD6 : Hid (∀ j, j < len → w6.cell? ⟨w'.heap.size, j, none⟩ = some (.string (ss.getD j ByteArray.empty))) := fun j hj => (hb6.cell (by exact hgs5)).trans (HD5.out j hj)
          have hgs6 : w'.heap.size < w6.heap.size := Nat.lt_of_lt_of_le hgs5 hb6.size
          have HB6 : Hid (Below w'.heap.size w' w6) := HB5.out.trans (hb6.mono (Nat.le_of_lt hgs5))
          have h3 := joinC_at w'.heap.size k len ss w6 hgs6 HL.out hcap HN.out (by omega) HD6.out
          rw [← HJb.out] at h3
          have H3 : Hid (Calls Try.prog 6 #[.slice (some ⟨w'.heap.size, 0, none⟩) k len] w6 fun e w'' => e = .returned (.string Jb) ∧ Below w6.heap.size w6 w'') := h3
          clear h3 hb6 H2 HD5 HB5 hgs5
          go_wp2_with fail
          refine H3.out.mono ?_
          rintro e w7 ⟨rfl, hb7⟩
          have HB7 : Hid (Below w'.heap.size w' w7) := HB6.out.trans (hb7.mono (Nat.le_of_lt hgs6))
          clear hb7 H3 HD6 HB6
          go_wp2
          go_ret
          exact ⟨rfl, HB7.out⟩
        · go_wp2
          go_ret
          exact ⟨rfl, HB4.out⟩
      · go_wp2
        go_ret
        exact ⟨rfl, HB4.out⟩

end Go.Proofs.Qxb6617480a
