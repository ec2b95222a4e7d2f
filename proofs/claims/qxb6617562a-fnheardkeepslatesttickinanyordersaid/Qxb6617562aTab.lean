/-
  Seat b6617562a. Maps in memory as plain tables: 'map[string]int64' as a table of ticks, 'map[string]*entry' as the set of its keys.
-/
import Derived.Test.Qxb6617562aRows
import Derived.Test.Qxb6617562aPlain
import Derived.WalkKit
import Derived.WalkSpells
import Derived.WalkLawsBesides
import Derived.Maps.OwnSet
import Derived.Maps.Ext
namespace Go.Proofs.Qxb6617562a
open Go.RowKit

theorem law9 : Maps.Keyed Try.prog 9 := Maps.string_keyed Try.underlying9
theorem zero2 (w : World) : (zeroValue 2).run Try.prog w = .ok (.int .i64 0) w := by kernel_rfl
theorem zero46 (w : World) : (zeroValue 46).run Try.prog w = .ok (.pointer none) w := by kernel_rfl

/-- Is the key in the table? -/
def isIn (M : List UInt8 → Option Int) : Lit → Bool
  | .string l => (M l).isSome
  | _ => false
/-- The datum reads as the table. -/
def Rep (D : DataW Unit) (M : List UInt8 → Option Int) : Prop := (∀ k, Maps.has D k = isIn M k) ∧ ∀ l x, M l = some x → ∀ z, D.atKey (.string l) z = .lit (.int .i64 x)

theorem rep_empty : Rep (.map []) (fun _ => none) := ⟨fun k => by cases k <;> rfl, fun l x h => by cases h⟩

theorem isIn_upd (M : List UInt8 → Option Int) (l : List UInt8) (x : Int) (k : Lit) (h : k ≠ .string l) : isIn (upd M l x) k = isIn M k := by
  cases k <;> try rfl
  rename_i b
  have : b ≠ l := fun e => h (by rw [e])
  simp [isIn, upd, this]

theorem rep_put {D : DataW Unit} {M : List UInt8 → Option Int} (h : Rep D M) (hm : Maps.IsMap D) (l : List UInt8) (x : Int) : Rep (D.put (.string l) (.lit (.int .i64 x))) (upd M l x) := by
  refine ⟨fun k => ?_, fun j y hj z => ?_⟩
  · by_cases e : k = .string l
    · rw [e, Maps.has_put_same hm (k := .string l) trivial]
      simp [isIn, upd]
    · rw [Maps.has_put_other e, h.1 k, isIn_upd M l x k e]
  · by_cases e : j = l
    · rw [e] at hj ⊢
      simp [upd] at hj
      rw [Maps.atKey_put_same hm (k := .string l) trivial, hj]
    · simp [upd, e] at hj
      rw [Maps.atKey_put_other (fun h => e (by cases h; rfl))]
      exact h.2 j y hj z

theorem rep_eq {D1 D2 : DataW Unit} {M : List UInt8 → Option Int} (h1 : Rep D1 M) (h2 : Rep D2 M) (c1 : Maps.Canon D1) (c2 : Maps.Canon D2) : D1 = D2 := by
  refine Maps.ext c1 c2 (fun k => by rw [h1.1, h2.1]) (fun k z hk => ?_)
  rw [h1.1] at hk
  cases k <;> try (cases hk; done)
  rename_i l
  obtain ⟨x, hx⟩ := Option.isSome_iff_exists.1 hk
  rw [h1.2 l x hx, h2.2 l x hx]

/-- BLOCK b OF w IS A MAP OF AT MOST n ENTRIES THAT READS AS THE TABLE M. -/
def Tab (w : World) (b n : Nat) (M : List UInt8 → Option Int) : Prop := ∃ D : DataW Unit, w.ownsMap Try.prog 9 (plainElem Try.prog 2) b n D ∧ Rep D M

theorem tab_made (w : World) : Tab (w.alloc (.map #[] 0)) w.heap.size 0 (fun _ => none) := ⟨_, World.ownsMap_made _ _ _ _, rep_empty⟩
theorem Tab.kept {w w' : World} {b n : Nat} {M : List UInt8 → Option Int} {row : Option Nat} (h : Tab w b n M) (hg : w.grownBy w' row) (hne : some b ≠ row) : Tab w' b n M := by
  obtain ⟨D, h1, h2⟩ := h
  exact ⟨D, h1.kept hg hne, h2⟩
theorem Tab.same {w w' : World} {b n : Nat} {M : List UInt8 → Option Int} (h : Tab w b n M) (he : w'.heap[b]? = w.heap[b]?) : Tab w' b n M := by
  obtain ⟨D, ⟨es, clock, hb, r⟩, h2⟩ := h
  exact ⟨D, ⟨es, clock, he.trans hb, r⟩, h2⟩
theorem Tab.lt {w : World} {b n : Nat} {M : List UInt8 → Option Int} (h : Tab w b n M) : b < w.heap.size := by
  obtain ⟨D, h1, _⟩ := h
  exact h1.lt

theorem Tab.look {w : World} {b n : Nat} {M : List UInt8 → Option Int} (h : Tab w b n M) (s : ByteArray) (hs : s.size ≤ maxLen) :
    (Instr.lookup 29 (.map (some b)) (.string s) true).run Try.prog w = .ok (.tuple #[.int .i64 ((M s.data.toList).getD 0), .bool (M s.data.toList).isSome]) w := by
  obtain ⟨D, h1, h2⟩ := h
  obtain ⟨v, ps, hrun, hv⟩ := h1.look_ok law9 Try.underlying29 (zero2 w) (plainElem_int Try.underlying2 (by decide)) (WideMaps.keyOf_string_mk Try.underlying9 hs)
  obtain ⟨a, rfl, hz, _⟩ := plainElem_int_inv Try.underlying2 hv
  have ha : D.atKey (.string s.data.toList) (.lit (.int .i64 0)) = .lit (.int .i64 a) := congrArg Prod.fst hz
  have hh := h2.1 (.string s.data.toList)
  rw [hh] at hrun
  cases hM : M s.data.toList with
  | none =>
    have e : isIn M (.string s.data.toList) = false := by simp [isIn, hM]
    rw [e] at hh hrun
    rw [Maps.atKey_of_not_has hh] at ha
    cases ha
    exact hrun
  | some x =>
    have e : isIn M (.string s.data.toList) = true := by simp [isIn, hM]
    rw [e] at hrun
    rw [h2.2 _ x hM] at ha
    cases ha
    exact hrun

theorem Tab.store {w : World} {b n : Nat} {M : List UInt8 → Option Int} (h : Tab w b n M) (hn : n < maxLen) (s : ByteArray) (hs : s.size ≤ maxLen) (x : Int) (hx : (Lit.int .i64 x).wf = true) :
    ∃ w', (Instr.mapUpdate 29 (.map (some b)) (.string s) (.int .i64 x)).run Try.prog w = .ok () w' ∧ Tab w' b (n + 1) (upd M s.data.toList x) ∧ w.grownBy w' (some b) := by
  obtain ⟨D, h1, h2⟩ := h
  obtain ⟨w', r1, r2, r3⟩ := h1.update law9 Try.underlying29 hn (WideMaps.keyOf_string_mk Try.underlying9 hs) (plainElem_int Try.underlying2 hx)
  exact ⟨w', r1, ⟨_, r2, rep_put h2 h1.isMap _ _⟩, r3⟩

theorem Tab.len2 {w : World} {b1 b2 n1 n2 : Nat} {M : List UInt8 → Option Int} (h1 : Tab w b1 n1 M) (h2 : Tab w b2 n2 M) :
    ∃ z : Nat, (∀ ty, (Builtin.len_ #[29] ty #[.map (some b1)]).run Try.prog w = .ok (.int .i64 z) w) ∧ ∀ ty, (Builtin.len_ #[29] ty #[.map (some b2)]).run Try.prog w = .ok (.int .i64 z) w := by
  obtain ⟨D1, a1, a2⟩ := h1
  obtain ⟨D2, c1, c2⟩ := h2
  obtain rfl := rep_eq a2 c2 (a1.canon law9) (c1.canon law9)
  exact ⟨_, fun ty => a1.len Try.underlying29 ty, fun ty => c1.len Try.underlying29 ty⟩

/-- How a pointer among a map's elements reads here: that it is one. -/
def ptrElem : Value → Option (DataW Unit × List MemPlace)
  | .pointer _ => some (.nil, [])
  | _ => none
theorem ptrElem_inv {v : Value} {z : DataW Unit × List MemPlace} (h : ptrElem v = some z) : ∃ a, v = .pointer a := by
  cases v <;> simp [ptrElem] at h
  exact ⟨_, rfl⟩

/-- Is the key in the set? -/
def isOf (S : List UInt8 → Bool) : Lit → Bool
  | .string l => S l
  | _ => false
/-- The set with one key more. -/
def addK (S : List UInt8 → Bool) (k : List UInt8) : List UInt8 → Bool := fun j => if j = k then true else S j

/-- BLOCK b OF w IS A MAP OF AT MOST n ENTRIES WHOSE KEYS ARE THE SET S. -/
def Held (w : World) (b n : Nat) (S : List UInt8 → Bool) : Prop := ∃ D : DataW Unit, w.ownsMap Try.prog 9 ptrElem b n D ∧ ∀ k, Maps.has D k = isOf S k

theorem held_made (w : World) : Held (w.alloc (.map #[] 0)) w.heap.size 0 (fun _ => false) := ⟨_, World.ownsMap_made _ _ _ _, fun k => by cases k <;> rfl⟩
theorem Held.kept {w w' : World} {b n : Nat} {S : List UInt8 → Bool} {row : Option Nat} (h : Held w b n S) (hg : w.grownBy w' row) (hne : some b ≠ row) : Held w' b n S := by
  obtain ⟨D, h1, h2⟩ := h
  exact ⟨D, h1.kept hg hne, h2⟩
theorem Held.same {w w' : World} {b n : Nat} {S : List UInt8 → Bool} (h : Held w b n S) (he : w'.heap[b]? = w.heap[b]?) : Held w' b n S := by
  obtain ⟨D, ⟨es, clock, hb, r⟩, h2⟩ := h
  exact ⟨D, ⟨es, clock, he.trans hb, r⟩, h2⟩
theorem Held.lt {w : World} {b n : Nat} {S : List UInt8 → Bool} (h : Held w b n S) : b < w.heap.size := by
  obtain ⟨D, h1, _⟩ := h
  exact h1.lt
theorem Held.look {w : World} {b n : Nat} {S : List UInt8 → Bool} (h : Held w b n S) (s : ByteArray) (hs : s.size ≤ maxLen) :
    ∃ a, (Instr.lookup 41 (.map (some b)) (.string s) true).run Try.prog w = .ok (.tuple #[.pointer a, .bool (S s.data.toList)]) w := by
  obtain ⟨D, h1, h2⟩ := h
  obtain ⟨v, ps, hrun, hv⟩ := h1.look_ok law9 Try.underlying41 (zero46 w) (zd := .nil) (zp := []) rfl (WideMaps.keyOf_string_mk Try.underlying9 hs)
  obtain ⟨a, rfl⟩ := ptrElem_inv hv
  rw [h2] at hrun
  exact ⟨a, hrun⟩
theorem Held.store {w : World} {b n : Nat} {S : List UInt8 → Bool} (h : Held w b n S) (hn : n < maxLen) (s : ByteArray) (hs : s.size ≤ maxLen) (a : Option Addr) :
    ∃ w', (Instr.mapUpdate 41 (.map (some b)) (.string s) (.pointer a)).run Try.prog w = .ok () w' ∧ Held w' b (n + 1) (addK S s.data.toList) ∧ w.grownBy w' (some b) := by
  obtain ⟨D, h1, h2⟩ := h
  obtain ⟨w', r1, r2, r3⟩ := h1.update law9 Try.underlying41 hn (WideMaps.keyOf_string_mk Try.underlying9 hs) (d := .nil) (ps := []) (val := .pointer a) rfl
  refine ⟨w', r1, ⟨_, r2, fun k => ?_⟩, r3⟩
  by_cases e : k = .string s.data.toList
  · rw [e, Maps.has_put_same h1.isMap (k := .string s.data.toList) trivial]
    simp [isOf, addK]
  · rw [Maps.has_put_other e, h2]
    cases k <;> try rfl
    rename_i l
    have : l ≠ s.data.toList := fun h => e (by rw [h])
    simp [isOf, addK, this]

end Go.Proofs.Qxb6617562a
