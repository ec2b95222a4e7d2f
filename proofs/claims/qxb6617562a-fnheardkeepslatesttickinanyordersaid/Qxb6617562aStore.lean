/-
  Seat b6617562a. Contracts of the functions that make or write memory: zzSeenMap (7), ZZMesh (5), ZZStore (6), ZZHold (8), Heard (9), ZZSeen (13).
-/
import Derived.Test.Qxb6617562aLoops
import Derived.RegionTactic
import Derived.BigRegion
namespace Go.Proofs.Qxb6617562a
open Go.RowKit

theorem wf_of {x : Int} (h1 : -9223372036854775808 ≤ x) (h2 : x ≤ 9223372036854775807) : (Lit.int .i64 x).wf = true := WalkArith.wf_i64 (by omega)

set_option maxHeartbeats 2000000 in
theorem seenMap_any (a1 a2 : Option Addr) (l1 c1 l2 c2 m : Nat) (so : Nat → ByteArray) (T : Nat → Int) (w : World) (hs : SRow w a1 m so) (ht : IRow w a2 m T) (hm : m ≤ 1000000) (h1 : m ≤ l1) (h2 : m ≤ l2) :
    Calls Try.prog 7 #[.slice a1 l1 c1, .slice a2 l2 c2, .int .i64 m] w fun e w' => e = .returned (.map (some w.heap.size)) ∧ Tab w' w.heap.size m (seen (fun i => nm (so i)) T m) ∧ Below w.heap.size w w' := by
  obtain ⟨A, hA⟩ : ∃ A : Nat → List UInt8 → Option Int, A = seen (fun i => nm (so i)) T := ⟨_, rfl⟩
  rw [← hA]
  have HS : Hid (SRow w a1 m so) := hs
  have HT : Hid (IRow w a2 m T) := ht
  have A0 : Hid (A 0 = fun _ => none) := by show A 0 = _; rw [hA]; rfl
  have AS : Hid (∀ i, A (i + 1) = upd (A i) (nm (so i)) (T i)) := by intro i; rw [hA]; rfl
  clear hs ht hA
  have hmm := @run_makeMap Try.prog
  go_enter Try.func7, Try.ntmps7
  go_wp2
  go_loopw [8] (fun i wr => ∃ j : Nat, j ≤ m ∧ i = .int .i64 j ∧ Hid (Tab wr w.heap.size j (A j)) ∧ Hid (Below w.heap.size w wr)) (fun i _ => m - (intOf i).toNat)
  case atStart => exact ⟨0, Nat.zero_le _, rfl, by show Tab _ _ _ _; rw [A0.out]; exact tab_made w, (Below.refl _ _).alloc (Nat.le_refl _) _⟩
  case round =>
    obtain ⟨j, hj, rfl, HTb, HBl⟩ := hrel
    by_cases hlt : j < m
    · obtain ⟨b1, o1, rfl, hb1, hc1, hsz⟩ := (HS.out.below HBl.out (Nat.le_refl _)) j hlt
      obtain ⟨b2, o2, rfl, hb2, hc2, ht1, ht2⟩ := (HT.out.below HBl.out (Nat.le_refl _)) j hlt
      obtain ⟨s, hse⟩ : ∃ s, s = so j := ⟨_, rfl⟩
      obtain ⟨t, hte⟩ : ∃ t, t = T j := ⟨_, rfl⟩
      rw [← hse] at hc1 hsz
      rw [← hte] at hc2 ht1 ht2
      have htd : Tab wr.drew w.heap.size j (A j) := HTb.out
      obtain ⟨w1, hrun, ht3, hg3⟩ := htd.store (by unfold maxLen; omega) s hsz t (wf_of ht1 ht2)
      have HT3 : Hid (Tab w1 w.heap.size (j + 1) (A (j + 1))) := by show Tab _ _ _ _; rw [AS.out j, ← hse, ← hte]; exact ht3
      have HB3 : Hid (Below w.heap.size w w1) := (HBl.out.drew).grown hg3 HBl.out.size (fun k hk => by cases hk; exact Nat.le_refl _)
      have i1 : (j : Int) < (l1 : Int) := by omega
      have i2 : (j : Int) < (l2 : Int) := by omega
      have i3 : (0 : Int) ≤ (j : Int) := by omega
      clear hse hte htd ht3 hg3
      go_wp2
      go_region
      all_goals go_wp2
      all_goals go_roundw
      case rel => exact ⟨j + 1, by omega, by go_num, HT3, HB3⟩
      case measure => simp [intOf]; omega
    · have hjn : m = j := by omega
      subst hjn
      go_wp2
      go_ret
      exact ⟨rfl, HTb.out, HBl.out⟩

/-- THE STORE's BLOCK: its node, its items' map, its mesh, its seen table. -/
def StoreAt (w : World) (sb : Nat) (self : ByteArray) (mp : Option Addr) (ib mb : Nat) : Prop :=
  w.heap[sb]? = some (.cells #[.string self, .map (some ib), .pointer mp, .slice none 0 0, .int .i64 0, .bool false, .bool false, .int .u64 0, .map none, .map (some mb), .int .i64 0] 45 (0, 0))
theorem StoreAt.c0 {w : World} {sb : Nat} {self : ByteArray} {mp : Option Addr} {ib mb : Nat} (h : StoreAt w sb self mp ib mb) : w.cell? ⟨sb, 0, none⟩ = some (.string self) := by
  rw [cell_of_row w sb 0 _ _ _ h]; rfl
theorem StoreAt.c1 {w : World} {sb : Nat} {self : ByteArray} {mp : Option Addr} {ib mb : Nat} (h : StoreAt w sb self mp ib mb) : w.cell? ⟨sb, 1, none⟩ = some (.map (some ib)) := by
  rw [cell_of_row w sb 1 _ _ _ h]; rfl
theorem StoreAt.c2 {w : World} {sb : Nat} {self : ByteArray} {mp : Option Addr} {ib mb : Nat} (h : StoreAt w sb self mp ib mb) : w.cell? ⟨sb, 2, none⟩ = some (.pointer mp) := by
  rw [cell_of_row w sb 2 _ _ _ h]; rfl
theorem StoreAt.c9 {w : World} {sb : Nat} {self : ByteArray} {mp : Option Addr} {ib mb : Nat} (h : StoreAt w sb self mp ib mb) : w.cell? ⟨sb, 9, none⟩ = some (.map (some mb)) := by
  rw [cell_of_row w sb 9 _ _ _ h]; rfl
theorem StoreAt.lt {w : World} {sb : Nat} {self : ByteArray} {mp : Option Addr} {ib mb : Nat} (h : StoreAt w sb self mp ib mb) : sb < w.heap.size := (Array.getElem?_eq_some_iff.1 h).1
theorem StoreAt.same {w w' : World} {sb : Nat} {self : ByteArray} {mp : Option Addr} {ib mb : Nat} (h : StoreAt w sb self mp ib mb) (he : w'.heap[sb]? = w.heap[sb]?) : StoreAt w' sb self mp ib mb := he.trans h
theorem StoreAt.kept {w w' : World} {sb : Nat} {self : ByteArray} {mp : Option Addr} {ib mb : Nat} {row : Option Nat} (h : StoreAt w sb self mp ib mb) (hg : w.grownBy w' row) (hne : some sb ≠ row) : StoreAt w' sb self mp ib mb := h.same (hg.block sb h.lt hne)

set_option maxHeartbeats 1000000 in
theorem mesh_any (w : World) : Calls Try.prog 5 #[] w fun e w' => e = .returned (.pointer (some ⟨w.heap.size, 0, none⟩)) ∧ Below w.heap.size w w' := by
  go_enter Try.func5, Try.ntmps5
  go_wp2
  go_ret
  exact ⟨rfl, (Below.refl _ _).alloc (Nat.le_refl _) _⟩

set_option maxHeartbeats 1000000 in
theorem store_any (self : ByteArray) (mp : Option Addr) (mb : Nat) (w : World) :
    Calls Try.prog 6 #[.string self, .pointer mp, .map (some mb)] w fun e w' => e = .returned (.pointer (some ⟨w.heap.size + 1, 0, none⟩)) ∧
      StoreAt w' (w.heap.size + 1) self mp w.heap.size mb ∧ Held w' w.heap.size 0 (fun _ => false) ∧ Below w.heap.size w w' := by
  have hmm := @run_makeMap Try.prog
  go_enter Try.func6, Try.ntmps6
  go_wp2
  go_ret
  refine ⟨rfl, ?_, (held_made w).same ?_, ((Below.refl _ _).alloc (Nat.le_refl _) _).alloc (by simp) _⟩
  · have h := heap_alloc_new (w.alloc (.map #[] 0)) (.cells #[.string self, .map (some w.heap.size), .pointer mp, .slice none 0 0, .int .i64 0, .bool false, .bool false, .int .u64 0, .map none, .map (some mb), .int .i64 0] 45)
    simp only [World.size_alloc] at h
    exact h
  · exact Below.heap_alloc _ _ _ (by simp)

set_option maxHeartbeats 1000000 in
theorem hold_any (sb ib mb n : Nat) (self owner : ByteArray) (mp : Option Addr) (S : List UInt8 → Bool) (w : World) (hst : StoreAt w sb self mp ib mb) (hh : Held w ib n S) (hn : n ≤ 1000000) (hs : owner.size ≤ 9223372036854775807) :
    Calls Try.prog 8 #[.pointer (some ⟨sb, 0, none⟩), .string owner] w fun e w' => e = .returned (.tuple #[]) ∧ Held w' ib (n + 1) (addK S (nm owner)) ∧ w.grownBy w' (some ib) := by
  have c1 := hst.c1
  have HH : Hid (∀ o a, ∃ w', (Instr.mapUpdate 41 (.map (some ib)) (.string owner) (.pointer a)).run Try.prog (w.alloc o) = .ok () w' ∧ Held w' ib (n + 1) (addK S owner.data.toList) ∧ (w.alloc o).grownBy w' (some ib)) :=
    fun o a => (hh.kept (World.grownBy_alloc w o none) (by simp)).store (by unfold maxLen; omega) owner hs a
  obtain ⟨w1, hrun, hh1, hg1⟩ := HH.out (.cells #[.string owner, .int .u64 0, .string ⟨#[]⟩, .int .i64 (-1)] 50) (some ⟨w.heap.size, 0, none⟩)
  have H1 : Hid (Held w1 ib (n + 1) (addK S (nm owner))) := hh1
  have G1 : Hid (w.grownBy w1 (some ib)) := (World.grownBy_alloc w _ (some ib)).trans hg1
  clear hst hh HH hh1 hg1
  go_enter Try.func8, Try.ntmps8
  go_wp2
  go_end0
  exact ⟨rfl, H1.out, G1.out⟩

set_option maxHeartbeats 1000000 in
theorem zzseen_any (sb ib mb : Nat) (self : ByteArray) (mp : Option Addr) (w : World) (hst : StoreAt w sb self mp ib mb) :
    Calls Try.prog 13 #[.pointer (some ⟨sb, 0, none⟩)] w fun e w' => e = .returned (.map (some mb)) ∧ w' = w := by
  have c9 := hst.c9
  clear hst
  go_enter Try.func13, Try.ntmps13
  go_wp2
  go_ret
  exact ⟨rfl, rfl⟩

theorem Tab.mono {w : World} {b n n' : Nat} {M : List UInt8 → Option Int} (h : Tab w b n M) (hn : n ≤ n') : Tab w b n' M := by
  obtain ⟨D, h1, h2⟩ := h
  exact ⟨D, h1.mono hn, h2⟩

set_option maxHeartbeats 2000000 in
theorem heard_any (sb ib mb n ni : Nat) (self owner : ByteArray) (mp : Option Addr) (S : List UInt8 → Bool) (M : List UInt8 → Option Int) (el : List UInt8 → Bool) (t : Int) (w : World)
    (hst : StoreAt w sb self mp ib mb) (hh : Held w ib ni S) (ht : Tab w mb n M) (hn : n ≤ 1000000) (hs : owner.size ≤ 9223372036854775807) (ht1 : -9223372036854775808 ≤ t) (ht2 : t ≤ 9223372036854775807)
    (hel : el (nm owner) = (mp.isNone && !decide (nm owner = nm self) && S (nm owner))) :
    Calls Try.prog 9 #[.pointer (some ⟨sb, 0, none⟩), .string owner, .int .i64 t] w fun e w' => e = .returned (.tuple #[]) ∧ Tab w' mb (n + 1) (hear el M (nm owner) t) ∧ w.grownBy w' (some mb) := by
  have c0 := hst.c0
  have c1 := hst.c1
  have c2 := hst.c2
  have c9 := hst.c9
  obtain ⟨a, hlk⟩ := hh.look owner hs
  have hlk2 := ht.look owner hs
  obtain ⟨w1, hrun, ht3, hg3⟩ := ht.store (by unfold maxLen; omega) owner hs t (wf_of ht1 ht2)
  have HT : Hid (Tab w mb n M) := ht
  have HT3 : Hid (Tab w1 mb (n + 1) (upd M (nm owner) t)) := ht3
  have HG3 : Hid (w.grownBy w1 (some mb)) := hg3
  have HE : Hid (el (nm owner) = (mp.isNone && !decide (nm owner = nm self) && S (nm owner))) := hel
  have hno : ∀ w' : World, w' = w → el (nm owner) = false → Tab w' mb (n + 1) (hear el M (nm owner) t) ∧ w.grownBy w' (some mb) := by
    intro w' hw' he
    rw [hw', hear_no M _ t he]
    exact ⟨HT.out.mono (by omega), World.grownBy.refl _ _⟩
  have HNO : Hid (∀ w' : World, w' = w → el (nm owner) = false → Tab w' mb (n + 1) (hear el M (nm owner) t) ∧ w.grownBy w' (some mb)) := hno
  clear hst hh ht ht3 hg3 hel hno
  change Sem.run Try.prog (Instr.lookup 41 (.map (some ib)) (.string owner) true) w = .ok (.tuple #[.pointer a, .bool (S (nm owner))]) w at hlk
  change Sem.run Try.prog (Instr.lookup 29 (.map (some mb)) (.string owner) true) w = .ok (.tuple #[.int .i64 ((M (nm owner)).getD 0), .bool (M (nm owner)).isSome]) w at hlk2
  cases mp with
  | some pa =>
    have he : el (nm owner) = false := by rw [HE.out]; rfl
    have HX := HNO.out w rfl he
    have HXX : Hid (Tab w mb (n + 1) (hear el M (nm owner) t) ∧ w.grownBy w (some mb)) := HX
    clear HX he hrun hlk hlk2
    go_enter Try.func9, Try.ntmps9
    go_wp2
    exact bodyPost_ret (v := .tuple #[]) (by simp [results, Try.results9, go_sem]) rfl ⟨rfl, HXX.out⟩
  | none =>
    by_cases hself : nm owner = nm self
    · have he : el (nm owner) = false := by rw [HE.out]; simp [hself]
      have HXX : Hid (Tab w mb (n + 1) (hear el M (nm owner) t) ∧ w.grownBy w (some mb)) := HNO.out w rfl he
      have hq := str_yes hself
      clear he hrun hlk hlk2 hself
      go_enter Try.func9, Try.ntmps9
      go_wp2
      exact bodyPost_ret (v := .tuple #[]) (by simp [results, Try.results9, go_sem]) rfl ⟨rfl, HXX.out⟩
    · have hq := str_no hself
      have he : el (nm owner) = S (nm owner) := by rw [HE.out]; simp [hself]
      obtain ⟨so, hso⟩ : ∃ so, so = S (nm owner) := ⟨_, rfl⟩
      rw [← hso] at hlk he
      cases so
      · have HXX : Hid (Tab w mb (n + 1) (hear el M (nm owner) t) ∧ w.grownBy w (some mb)) := HNO.out w rfl he
        clear he hrun hlk2 hself hso
        go_enter Try.func9, Try.ntmps9
        go_wp2
        exact bodyPost_ret (v := .tuple #[]) (by simp [results, Try.results9, go_sem]) rfl ⟨rfl, HXX.out⟩
      · have HE2 : Hid (el (nm owner) = true) := he
        obtain ⟨o, ho⟩ : ∃ o, o = M (nm owner) := ⟨_, rfl⟩
        rw [← ho] at hlk2
        cases o with
        | none =>
          have HXX : Hid (Tab w1 mb (n + 1) (hear el M (nm owner) t) ∧ w.grownBy w1 (some mb)) := by
            show _ ∧ _
            rw [hear_new M _ t HE2.out ho.symm]
            exact ⟨HT3.out, HG3.out⟩
          simp only [Option.getD_none, Option.isSome_none] at hlk2
          clear he hself hso ho
          go_enter Try.func9, Try.ntmps9
          go_wp2
          go_end0
          exact ⟨rfl, HXX.out⟩
        | some x =>
          simp only [Option.getD_some, Option.isSome_some] at hlk2
          by_cases hxt : x < t
          · have HXX : Hid (Tab w1 mb (n + 1) (hear el M (nm owner) t) ∧ w.grownBy w1 (some mb)) := by
              show _ ∧ _
              rw [hear_later M _ t x HE2.out ho.symm hxt]
              exact ⟨HT3.out, HG3.out⟩
            clear he hself hso ho
            go_enter Try.func9, Try.ntmps9
            go_wp2
            go_end0
            exact ⟨rfl, HXX.out⟩
          · have HXX : Hid (Tab w mb (n + 1) (hear el M (nm owner) t) ∧ w.grownBy w (some mb)) := by
              show _ ∧ _
              rw [hear_older M _ t x HE2.out ho.symm hxt]
              exact ⟨HT.out.mono (by omega), World.grownBy.refl _ _⟩
            clear he hself hso ho hrun
            go_enter Try.func9, Try.ntmps9
            go_wp2
            go_end0
            exact ⟨rfl, HXX.out⟩

end Go.Proofs.Qxb6617562a
