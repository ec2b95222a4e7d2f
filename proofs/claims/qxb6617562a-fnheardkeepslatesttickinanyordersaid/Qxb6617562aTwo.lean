/-
  Seat b6617562a. The two stores that the law lays out, held side by side: what a write to one of their blocks leaves.
-/
import Derived.Test.Qxb6617562aStore
import Derived.Test.Qxb6617562aBytes
namespace Go.Proofs.Qxb6617562a
open Go.RowKit

/-- THE TWO STORES: their blocks lie one behind the other; each has its items' map and its seen table. -/
structure Two (me : ByteArray) (mp : Option Addr) (m1 i1 s1 m2 i2 s2 : Nat) (w : World) (h1 h2 n1 n2 : Nat) (S1 S2 : List UInt8 → Bool) (M1 M2 : List UInt8 → Option Int) : Prop where
  o1 : m1 < i1
  o2 : i1 < s1
  o3 : s1 < m2
  o4 : m2 < i2
  o5 : i2 < s2
  st1 : StoreAt w s1 me mp i1 m1
  st2 : StoreAt w s2 me mp i2 m2
  he1 : Held w i1 h1 S1
  he2 : Held w i2 h2 S2
  ta1 : Tab w m1 n1 M1
  ta2 : Tab w m2 n2 M2

section
variable {me : ByteArray} {mp : Option Addr} {m1 i1 s1 m2 i2 s2 : Nat} {w w' : World} {h1 h2 n1 n2 : Nat} {S1 S2 : List UInt8 → Bool} {M1 M2 : List UInt8 → Option Int}

theorem some_ne {a b : Nat} (h : a ≠ b) : (some a : Option Nat) ≠ some b := fun e => h (Option.some.inj e)

theorem Two.i1w (h : Two me mp m1 i1 s1 m2 i2 s2 w h1 h2 n1 n2 S1 S2 M1 M2) {h1' : Nat} {S1' : List UInt8 → Bool} (hn : Held w' i1 h1' S1') (hg : w.grownBy w' (some i1)) : Two me mp m1 i1 s1 m2 i2 s2 w' h1' h2 n1 n2 S1' S2 M1 M2 := by
  have a1 := h.o1; have a2 := h.o2; have a3 := h.o3; have a4 := h.o4; have a5 := h.o5
  exact ⟨a1, a2, a3, a4, a5, h.st1.kept hg (some_ne (by omega)), h.st2.kept hg (some_ne (by omega)), hn, h.he2.kept hg (some_ne (by omega)), h.ta1.kept hg (some_ne (by omega)), h.ta2.kept hg (some_ne (by omega))⟩
theorem Two.i2w (h : Two me mp m1 i1 s1 m2 i2 s2 w h1 h2 n1 n2 S1 S2 M1 M2) {h2' : Nat} {S2' : List UInt8 → Bool} (hn : Held w' i2 h2' S2') (hg : w.grownBy w' (some i2)) : Two me mp m1 i1 s1 m2 i2 s2 w' h1 h2' n1 n2 S1 S2' M1 M2 := by
  have a1 := h.o1; have a2 := h.o2; have a3 := h.o3; have a4 := h.o4; have a5 := h.o5
  exact ⟨a1, a2, a3, a4, a5, h.st1.kept hg (some_ne (by omega)), h.st2.kept hg (some_ne (by omega)), h.he1.kept hg (some_ne (by omega)), hn, h.ta1.kept hg (some_ne (by omega)), h.ta2.kept hg (some_ne (by omega))⟩
theorem Two.m1w (h : Two me mp m1 i1 s1 m2 i2 s2 w h1 h2 n1 n2 S1 S2 M1 M2) {n1' : Nat} {M1' : List UInt8 → Option Int} (hn : Tab w' m1 n1' M1') (hg : w.grownBy w' (some m1)) : Two me mp m1 i1 s1 m2 i2 s2 w' h1 h2 n1' n2 S1 S2 M1' M2 := by
  have a1 := h.o1; have a2 := h.o2; have a3 := h.o3; have a4 := h.o4; have a5 := h.o5
  exact ⟨a1, a2, a3, a4, a5, h.st1.kept hg (some_ne (by omega)), h.st2.kept hg (some_ne (by omega)), h.he1.kept hg (some_ne (by omega)), h.he2.kept hg (some_ne (by omega)), hn, h.ta2.kept hg (some_ne (by omega))⟩
theorem Two.m2w (h : Two me mp m1 i1 s1 m2 i2 s2 w h1 h2 n1 n2 S1 S2 M1 M2) {n2' : Nat} {M2' : List UInt8 → Option Int} (hn : Tab w' m2 n2' M2') (hg : w.grownBy w' (some m2)) : Two me mp m1 i1 s1 m2 i2 s2 w' h1 h2 n1 n2' S1 S2 M1 M2' := by
  have a1 := h.o1; have a2 := h.o2; have a3 := h.o3; have a4 := h.o4; have a5 := h.o5
  exact ⟨a1, a2, a3, a4, a5, h.st1.kept hg (some_ne (by omega)), h.st2.kept hg (some_ne (by omega)), h.he1.kept hg (some_ne (by omega)), h.he2.kept hg (some_ne (by omega)), h.ta1.kept hg (some_ne (by omega)), hn⟩
theorem Two.drew (h : Two me mp m1 i1 s1 m2 i2 s2 w h1 h2 n1 n2 S1 S2 M1 M2) : Two me mp m1 i1 s1 m2 i2 s2 w.drew h1 h2 n1 n2 S1 S2 M1 M2 :=
  ⟨h.o1, h.o2, h.o3, h.o4, h.o5, h.st1, h.st2, h.he1, h.he2, h.ta1, h.ta2⟩
theorem Two.below (h : Two me mp m1 i1 s1 m2 i2 s2 w h1 h2 n1 n2 S1 S2 M1 M2) {B : Nat} (hb : Below B w w') (hB : s2 < B) : Two me mp m1 i1 s1 m2 i2 s2 w' h1 h2 n1 n2 S1 S2 M1 M2 := by
  have a1 := h.o1; have a2 := h.o2; have a3 := h.o3; have a4 := h.o4; have a5 := h.o5
  exact ⟨a1, a2, a3, a4, a5, h.st1.same (hb.block _ (by omega)), h.st2.same (hb.block _ (by omega)), h.he1.same (hb.block _ (by omega)), h.he2.same (hb.block _ (by omega)), h.ta1.same (hb.block _ (by omega)), h.ta2.same (hb.block _ (by omega))⟩
theorem Two.lt (h : Two me mp m1 i1 s1 m2 i2 s2 w h1 h2 n1 n2 S1 S2 M1 M2) : s2 < w.heap.size := h.st2.lt
end

/-- The two stores just laid out. -/
theorem two_start {me : ByteArray} {mp : Option Addr} {w1 w2 w3 w4 w5 : World} {m : Nat} {M : List UInt8 → Option Int}
    (t1 : Tab w2 w1.heap.size m M) (b2 : Below w1.heap.size w1 w2) (st1 : StoreAt w3 (w2.heap.size + 1) me mp w2.heap.size w1.heap.size) (e1 : Held w3 w2.heap.size 0 (fun _ => false)) (b3 : Below w2.heap.size w2 w3)
    (t2 : Tab w4 w3.heap.size m M) (b4 : Below w3.heap.size w3 w4) (st2 : StoreAt w5 (w4.heap.size + 1) me mp w4.heap.size w3.heap.size) (e2 : Held w5 w4.heap.size 0 (fun _ => false)) (b5 : Below w4.heap.size w4 w5) :
    Two me mp w1.heap.size w2.heap.size (w2.heap.size + 1) w3.heap.size w4.heap.size (w4.heap.size + 1) w5 0 0 m m (fun _ => false) (fun _ => false) M M := by
  have l1 := t1.lt
  have l2 := st1.lt
  have l3 := t2.lt
  have l4 := st2.lt
  have z2 := b2.size
  have z3 := b3.size
  have z4 := b4.size
  have z5 := b5.size
  refine ⟨l1, by omega, l2, l3, by omega, ?_, st2, ?_, e2, ?_, ?_⟩
  · exact (st1.same (b4.block _ l2)).same (b5.block _ (by omega))
  · exact (e1.same (b4.block _ (by omega))).same (b5.block _ (by omega))
  · exact ((t1.same (b3.block _ l1)).same (b4.block _ (by omega))).same (b5.block _ (by omega))
  · exact t2.same (b5.block _ l3)

end Go.Proofs.Qxb6617562a
