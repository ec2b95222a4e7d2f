/-
  Seat b6617480a. The contracts of 'orList' (function 7) and 'ZZorList' (function 5), out of strings.Join's contract (function 8), which comes as a hypothesis.
-/
import Derived.Test.Qxb6617480aRows
import Derived.WalkKit
import Derived.WalkSpells
import Derived.WalkLawsBesides
import Derived.Lib.Join
import Derived.Deep.RegionHeld3
namespace Go.Proofs.Qxb6617480a
open Go.RowKit

/-- What strings.Join's contract says at this program. -/
def JoinSaid : Prop := ∀ (bk o c : Nat) (xs : List ByteArray) (sep : ByteArray) (w : World),
    (∀ (j : Nat) x, xs[j]? = some x → w.cell? ⟨bk, o + j, none⟩ = some (.string x)) →
    bk < w.heap.size → xs.length ≤ 140737488355328 → xs.length ≤ c →
    (Lib.join (xs.map (fun x : ByteArray => x.data.toList)) sep.data.toList).length ≤ 140737488355328 →
    Calls Try.prog 8 #[.slice (some ⟨bk, o, none⟩) xs.length c, .string sep] w fun e w' => e = .returned (.string ⟨(Lib.join (xs.map (fun x : ByteArray => x.data.toList)) sep.data.toList).toArray⟩) ∧ Below w.heap.size w w'

set_option maxHeartbeats 1000000 in
theorem orList_one (b off cap : Nat) (y : ByteArray) (w : World) (hc : w.cell? ⟨b, off, none⟩ = some (.string y)) :
    Calls Try.prog 7 #[.slice (some ⟨b, off, none⟩) 1 cap] w fun e w' => e = .returned (.string y) ∧ w' = w := by
  go_enter Try.func7, Try.ntmps7
  go_wp2
  go_ret
  exact ⟨rfl, rfl⟩

set_option maxHeartbeats 1000000 in
theorem orList_many (hJ : JoinSaid) (b off cap n : Nat) (xs : List ByteArray) (y : ByteArray) (w : World) (hb : b < w.heap.size) (hn : n = xs.length) (h1 : 1 ≤ n) (hN : n ≤ 1048576) (hcap : n + 1 ≤ cap)
    (hcell : ∀ (j : Nat) x, xs[j]? = some x → w.cell? ⟨b, off + j, none⟩ = some (.string x)) (hy : w.cell? ⟨b, off + n, none⟩ = some (.string y))
    (hlen : (Lib.join (xs.map (fun x : ByteArray => x.data.toList)) [44, 32]).length ≤ 1073741824) (hyl : y.size ≤ 1073741824) :
    Calls Try.prog 7 #[.slice (some ⟨b, off, none⟩) (n + 1) cap] w fun e w' => e = .returned (.string ⟨(Lib.join (xs.map (fun x : ByteArray => x.data.toList)) [44, 32] ++ [32, 111, 114, 32] ++ y.data.toList).toArray⟩) ∧ Below w.heap.size w w' := by
  have HC : Hid (∀ (j : Nat) x, xs[j]? = some x → w.cell? ⟨b, off + j, none⟩ = some (.string x)) := hcell
  obtain ⟨J, hJe⟩ : ∃ J : ByteArray, J = ⟨(Lib.join (xs.map (fun x : ByteArray => x.data.toList)) [44, 32]).toArray⟩ := ⟨_, rfl⟩
  have hJl : J.size ≤ 1073741824 := by rw [hJe]; simpa [ByteArray.size] using hlen
  have hfin : (⟨(Lib.join (xs.map (fun x : ByteArray => x.data.toList)) [44, 32] ++ [32, 111, 114, 32] ++ y.data.toList).toArray⟩ : ByteArray) = J ++ ⟨#[32, 111, 114, 32]⟩ ++ y := by
    apply ByteArray.ext
    apply Array.toList_inj.1
    simp [hJe]
  rw [hfin]
  clear hfin
  have Hn : Hid (n = xs.length) := hn
  have HJ : Hid (J = ⟨(Lib.join (xs.map (fun x : ByteArray => x.data.toList)) [44, 32]).toArray⟩) := hJe
  have hJn := fun (c : Nat) (hc : n ≤ c) => hJ b off c xs ⟨#[44, 32]⟩ w.drew (fun j x hj => HC.out j x hj) (by exact hb) (by rw [← Hn.out]; omega) (by rw [← Hn.out]; omega) (by show (Lib.join (xs.map (fun x : ByteArray => x.data.toList)) [44, 32]).length ≤ _; omega)
  rw [← hn] at hJn
  have hJn2 : ∀ (c : Nat), n ≤ c → Calls Try.prog 8 #[.slice (some ⟨b, off, none⟩) n c, .string ⟨#[44, 32]⟩] w.drew fun e w' => e = .returned (.string J) ∧ Below w.heap.size w.drew w' := by
    intro c hc; rw [HJ.out]; exact hJn c hc
  have HK : Hid (∀ (c : Nat), n ≤ c → Calls Try.prog 8 #[.slice (some ⟨b, off, none⟩) n c, .string ⟨#[44, 32]⟩] w.drew fun e w' => e = .returned (.string J) ∧ Below w.heap.size w.drew w') := hJn2
  clear hJn hJn2 hcell hn hJe
  have hne : (((n : Int) + 1) == 1) = false := by simp; omega
  have i0 : (0 : Int) ≤ (n : Int) := by omega
  have i1 : (n : Int) < (n : Int) + 1 := by omega
  have i2 : (n : Int) ≤ (cap : Int) := by omega
  have hw1 : IntKind.i64.wrap ((n : Int) + 1 - 1) = (n : Int) := by rw [IntWalk.i64_in _ (by omega)]; omega
  have hw2 : IntKind.i64.wrap (n : Int) = (n : Int) := IntWalk.i64_in _ (by omega)
  have i3 : ((n : Int)).toNat = n := by omega
  have i4 : n ≤ cap := by omega
  have i5 : n < n + 1 := by omega
  have ha1 := fun w => run_string_add_sum (P := Try.prog) w J ⟨#[32, 111, 114, 32]⟩ (by have : (⟨#[32, 111, 114, 32]⟩ : ByteArray).size = 4 := rfl; omega)
  have ha2 := fun w => run_string_add_sum (P := Try.prog) w (J ++ ⟨#[32, 111, 114, 32]⟩) y (by have : (⟨#[32, 111, 114, 32]⟩ : ByteArray).size = 4 := rfl; rw [ByteArray.size_append]; omega)
  clear hlen
  go_enter Try.func7, Try.ntmps7
  go_wp2_with fail
  go_region_held3 (fun w' => w'.cell? ⟨b, off + n, none⟩ = some (.string y)) (first | go_keep | (rw [‹Below _ _ _›.cell (by exact hb)]; assumption)) (first | (go_at_call 8; refine (HK.out _ (by omega)).mono ?_; rintro e w1 ⟨rfl, hbel⟩))
  go_wp2
  go_ret
  exact ⟨rfl, ((Below.refl _ _).drew).trans hbel⟩

set_option maxHeartbeats 1000000 in
theorem zzor_one (b off cap : Nat) (y : ByteArray) (w : World) (hc : w.cell? ⟨b, off, none⟩ = some (.string y)) :
    Calls Try.prog 5 #[.slice (some ⟨b, off, none⟩) 1 cap] w fun e w' => e = .returned (.string y) ∧ w' = w := by
  go_enter Try.func5, Try.ntmps5
  go_wp2_with (go_at_call 7; refine (orList_one _ _ _ _ _ hc).mono ?_; rintro e w' ⟨rfl, rfl⟩)
  go_ret
  exact ⟨rfl, rfl⟩

set_option maxHeartbeats 1000000 in
theorem zzor_many (hJ : JoinSaid) (b off cap n : Nat) (xs : List ByteArray) (y : ByteArray) (w : World) (hb : b < w.heap.size) (hn : n = xs.length) (h1 : 1 ≤ n) (hN : n ≤ 1048576) (hcap : n + 1 ≤ cap)
    (hcell : ∀ (j : Nat) x, xs[j]? = some x → w.cell? ⟨b, off + j, none⟩ = some (.string x)) (hy : w.cell? ⟨b, off + n, none⟩ = some (.string y))
    (hlen : (Lib.join (xs.map (fun x : ByteArray => x.data.toList)) [44, 32]).length ≤ 1073741824) (hyl : y.size ≤ 1073741824) :
    Calls Try.prog 5 #[.slice (some ⟨b, off, none⟩) (n + 1) cap] w fun e w' => e = .returned (.string ⟨(Lib.join (xs.map (fun x : ByteArray => x.data.toList)) [44, 32] ++ [32, 111, 114, 32] ++ y.data.toList).toArray⟩) ∧ Below w.heap.size w w' := by
  have H := orList_many hJ b off cap n xs y w hb hn h1 hN hcap hcell hy hlen hyl
  generalize (⟨(Lib.join (xs.map (fun x : ByteArray => x.data.toList)) [44, 32] ++ [32, 111, 114, 32] ++ y.data.toList).toArray⟩ : ByteArray) = R at H ⊢
  have HH : Hid (Calls Try.prog 7 #[.slice (some ⟨b, off, none⟩) (n + 1) cap] w fun e w' => e = .returned (.string R) ∧ Below w.heap.size w w') := H
  clear H hcell hy hlen hn
  go_enter Try.func5, Try.ntmps5
  go_wp2_with (go_at_call 7; refine HH.out.mono ?_; rintro e w1 ⟨rfl, hbel⟩)
  go_ret
  exact ⟨rfl, hbel⟩

end Go.Proofs.Qxb6617480a
