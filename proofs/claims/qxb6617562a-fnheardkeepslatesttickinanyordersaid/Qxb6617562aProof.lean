/-
  Seat b6617562a. 'Rows.FnHeardKeepsLatestTickInAnyOrderSaid' proved: the law outside its guards, the row's step, the statement.
-/
import Derived.Test.Qxb6617562aMain
import Derived.ProofKit
import Derived.OpenShut
import Derived.ShutString
import Derived.ChangeOld
import Derived.SliceStrings
namespace Go.Proofs.Qxb6617562a
open Go.ChangeShapes Go.WideShapes Go.ChangeAt Go.RowKit
open Go.ChangeMaps (open_string shut_string)

set_option maxHeartbeats 4000000 in
set_option maxRecDepth 100000 in
/-- THE LAW outside its guards: true at once. -/
theorem law_out (self : ByteArray) (known : Bool) (a2 a3 a4 a5 a6 : Option Addr) (l2 c2 l3 c3 l4 c4 l5 c5 l6 c6 : Nat) (hs so ss : Nat → ByteArray) (w : World)
    (r2 : SRow w a2 l2 hs) (r3 : SRow w a3 l3 so) (r5 : SRow w a5 l5 ss) (h0 : self.size ≤ 9223372036854775807) (h2 : l2 ≤ 9223372036854775807) (h3 : l3 ≤ 9223372036854775807) (h4 : l4 ≤ 9223372036854775807) (h5 : l5 ≤ 9223372036854775807) (h6 : l6 ≤ 9223372036854775807)
    (h : 1048576 < self.size ∨ 4096 < l2 ∨ 4096 < l3 ∨ 4096 < l4 ∨ 4096 < l5 ∨ 4096 < l6 ∨ 1048576 < self.size + 8 * l4 + 8 * l6) :
    Calls Try.prog 3 #[.string self, .bool known, .slice a2 l2 c2, .slice a3 l3 c3, .slice a4 l4 c4, .slice a5 l5 c5, .slice a6 l6 c6] w fun e w' => e = .returned (.bool true) ∧ Below w.heap.size w w' := by
  have HBY : Hid (Calls Try.prog 4 #[.string self, .bool known, .slice a2 l2 c2, .slice a3 l3 c3, .slice a4 l4 c4, .slice a5 l5 c5, .slice a6 l6 c6] w fun e w' => SomeBool e ∧ w' = w) :=
    bytes_any self known a2 a3 a4 a5 a6 l2 c2 l3 c3 l4 c4 l5 c5 l6 c6 hs so ss w r2 r3 r5 h0 h2 h3 h4 h5 h6
  have HH : Hid (1048576 < self.size ∨ 4096 < l2 ∨ 4096 < l3 ∨ 4096 < l4 ∨ 4096 < l5 ∨ 4096 < l6 ∨ 1048576 < self.size + 8 * l4 + 8 * l6) := h
  clear r2 r3 r5 h
  go_enter Try.func3, Try.ntmps3
  go_wp2_with fail
  refine HBY.out.mono ?_
  rintro e w' ⟨⟨r, rfl⟩, rfl⟩
  clear HBY
  cases r
  · go_wp2
    go_ret
    exact ⟨rfl, Below.refl _ _⟩
  by_cases g0 : (1048576 : Int) < (self.size : Int)
  · go_wp2
    go_ret
    exact ⟨rfl, Below.refl _ _⟩
  have d0 : decide ((1048576 : Int) < (self.size : Int)) = false := decide_eq_false g0
  by_cases g2 : (4096 : Int) < (l2 : Int)
  · go_wp2
    go_ret
    exact ⟨rfl, Below.refl _ _⟩
  have d2 : decide ((4096 : Int) < (l2 : Int)) = false := decide_eq_false g2
  by_cases g3 : (4096 : Int) < (l3 : Int)
  · go_wp2
    go_ret
    exact ⟨rfl, Below.refl _ _⟩
  have d3 : decide ((4096 : Int) < (l3 : Int)) = false := decide_eq_false g3
  by_cases g4 : (4096 : Int) < (l4 : Int)
  · go_wp2
    go_ret
    exact ⟨rfl, Below.refl _ _⟩
  have d4 : decide ((4096 : Int) < (l4 : Int)) = false := decide_eq_false g4
  by_cases g5 : (4096 : Int) < (l5 : Int)
  · go_wp2
    go_ret
    exact ⟨rfl, Below.refl _ _⟩
  have d5 : decide ((4096 : Int) < (l5 : Int)) = false := decide_eq_false g5
  by_cases g6 : (4096 : Int) < (l6 : Int)
  · go_wp2
    go_ret
    exact ⟨rfl, Below.refl _ _⟩
  have d6 : decide ((4096 : Int) < (l6 : Int)) = false := decide_eq_false g6
  have gt : (1048576 : Int) < (self.size : Int) + 8 * (l4 : Int) + 8 * (l6 : Int) := by have := HH.out; omega
  go_wp2
  go_ret
  exact ⟨rfl, Below.refl _ _⟩

/-- WHAT THE WALK IS TOLD OF A SLICE OF TEXTS THAT CAME IN. -/
def IsStrs (w : World) (a : Option Addr) (len cap : Nat) (ss : List ByteArray) : Prop :=
  (a = none ∧ len = 0 ∧ cap = 0) ∨
  ∃ x, a = some x ∧ len ≤ ss.length ∧ len ≤ maxLen ∧ (∀ i, i < ss.length → w.cell? (x.add i) = some (.string (ss.getD i ByteArray.empty))) ∧ ∀ s ∈ ss, s.size ≤ maxLen
/-- WHAT THE WALK IS TOLD OF A SLICE OF TICKS THAT CAME IN. -/
def IsInts (w : World) (a : Option Addr) (len cap : Nat) (zs : List Int) : Prop :=
  (a = none ∧ len = 0 ∧ cap = 0) ∨
  ∃ x, a = some x ∧ len ≤ zs.length ∧ len ≤ maxLen ∧ (∀ i, i < zs.length → w.cell? (x.add i) = some (.int .i64 (zs.getD i 0))) ∧ ∀ n ∈ zs, (Lit.int .i64 n).wf = true

theorem strs_in {w : World} {a : Option Addr} {len cap : Nat} {ss : List ByteArray} (h : IsStrs w a len cap ss) : SRow w a len (fun j => ss.getD j ByteArray.empty) ∧ len ≤ 9223372036854775807 := by
  rcases h with ⟨rfl, rfl, rfl⟩ | ⟨x, rfl, hl, hm, hcell, hsz⟩
  · exact ⟨fun j hj => by omega, by omega⟩
  · unfold maxLen at hm
    refine ⟨fun j hj => ?_, hm⟩
    obtain ⟨b, off, spot⟩ := x
    have hc0 := hcell 0 (by omega)
    have hc := hcell j (by omega)
    have hspot : spot = none := by simpa [Addr.add] using World.cell?_spot hc0
    subst hspot
    have hb : b < w.heap.size := by
      have := block_lt_of_cell hc0
      simpa [Addr.add] using this
    rw [add_plain] at hc
    refine ⟨b, off, rfl, hb, hc, ?_⟩
    have hjl : j < ss.length := by omega
    have e : ss.getD j ByteArray.empty = ss[j] := by simp [List.getD, hjl]
    have := hsz ss[j] (List.getElem_mem hjl)
    unfold maxLen at this
    show (ss.getD j ByteArray.empty).size ≤ _
    rw [e]
    exact this

theorem ints_in {w : World} {a : Option Addr} {len cap : Nat} {zs : List Int} (h : IsInts w a len cap zs) : IRow w a len (fun j => zs.getD j 0) ∧ len ≤ 9223372036854775807 := by
  rcases h with ⟨rfl, rfl, rfl⟩ | ⟨x, rfl, hl, hm, hcell, hwz⟩
  · exact ⟨fun j hj => by omega, by omega⟩
  · unfold maxLen at hm
    refine ⟨fun j hj => ?_, hm⟩
    obtain ⟨b, off, spot⟩ := x
    have hc0 := hcell 0 (by omega)
    have hc := hcell j (by omega)
    have hspot : spot = none := by simpa [Addr.add] using World.cell?_spot hc0
    subst hspot
    have hb : b < w.heap.size := by
      have := block_lt_of_cell hc0
      simpa [Addr.add] using this
    rw [add_plain] at hc
    refine ⟨b, off, rfl, hb, hc, ?_⟩
    have hjl : j < zs.length := by omega
    have e : zs.getD j 0 = zs[j] := by simp [List.getD, hjl]
    have := bounds_i64 (hwz zs[j] (List.getElem_mem hjl))
    show -9223372036854775808 ≤ zs.getD j 0 ∧ zs.getD j 0 ≤ _
    rw [e]
    omega

/-- THE WALK: the Go text returns true, and writes nothing that was there. -/
theorem walk (self : ByteArray) (known : Bool) (a2 a3 a4 a5 a6 : Option Addr) (l2 c2 l3 c3 l4 c4 l5 c5 l6 c6 : Nat) (z2 z3 z5 : List ByteArray) (z4 z6 : List Int) (w : World) (w0 : self.size ≤ maxLen)
    (w2 : IsStrs w a2 l2 c2 z2) (w3 : IsStrs w a3 l3 c3 z3) (w4 : IsInts w a4 l4 c4 z4) (w5 : IsStrs w a5 l5 c5 z5) (w6 : IsInts w a6 l6 c6 z6) :
    Calls Try.prog 3 #[.string self, .bool known, .slice a2 l2 c2, .slice a3 l3 c3, .slice a4 l4 c4, .slice a5 l5 c5, .slice a6 l6 c6] w fun e w' => e = .returned (.bool true) ∧ Below w.heap.size w w' := by
  unfold maxLen at w0
  obtain ⟨r2, h2⟩ := strs_in w2
  obtain ⟨r3, h3⟩ := strs_in w3
  obtain ⟨r4, h4⟩ := ints_in w4
  obtain ⟨r5, h5⟩ := strs_in w5
  obtain ⟨r6, h6⟩ := ints_in w6
  by_cases h : 1048576 < self.size ∨ 4096 < l2 ∨ 4096 < l3 ∨ 4096 < l4 ∨ 4096 < l5 ∨ 4096 < l6 ∨ 1048576 < self.size + 8 * l4 + 8 * l6
  · exact law_out self known a2 a3 a4 a5 a6 l2 c2 l3 c3 l4 c4 l5 c5 l6 c6 _ _ _ w r2 r3 r5 w0 h2 h3 h4 h5 h6 h
  · exact law_in self known a2 a3 a4 a5 a6 l2 c2 l3 c3 l4 c4 l5 c5 l6 c6 _ _ _ _ _ w r2 r3 r4 r5 r6 (by omega) (by omega) (by omega) (by omega) (by omega) (by omega) (by omega)

theorem own : ownKnob Try.prog.godebug = none := by kernel_rfl
theorem laidOut : laidOutB Try.prog = true := by kernel_rfl

section
variable {H : Type} {enc : TypeId × Value → H} {W : World}
theorem strs_open {a : Option Addr} {len cap fuel : Nat} {x : DataW H × List MemPlace} (hf : DataW.trod enc Try.prog W 0 (fun _ => true) true fuel 22 (Value.slice a len cap).cells.toList = some x) : ∃ ss, IsStrs W a len cap ss := by
  rcases open_strings Try.underlying22 Try.underlying9 (by kernel_rfl) hf with ⟨hcs, _⟩ | ⟨x, l, c, ss, hcs, _, hl, hm, hz, _, hcell, hwz⟩
  · simp [Value.cells] at hcs
    obtain ⟨rfl, rfl, rfl⟩ := hcs
    exact ⟨[], .inl ⟨rfl, rfl, rfl⟩⟩
  · simp [Value.cells] at hcs
    obtain ⟨rfl, rfl, rfl⟩ := hcs
    simp only [if_true] at hz
    exact ⟨ss, .inr ⟨_, rfl, by omega, by omega, hcell, hwz⟩⟩
theorem ints_open {a : Option Addr} {len cap fuel : Nat} {x : DataW H × List MemPlace} (hf : DataW.trod enc Try.prog W 0 (fun _ => true) true fuel 23 (Value.slice a len cap).cells.toList = some x) : ∃ zs, IsInts W a len cap zs := by
  rcases open_ints Try.underlying23 Try.underlying2 (by kernel_rfl) hf with ⟨hcs, _⟩ | ⟨x, l, c, zs, hcs, _, hl, hm, hz, _, hcell, hwz⟩
  · simp [Value.cells] at hcs
    obtain ⟨rfl, rfl, rfl⟩ := hcs
    exact ⟨[], .inl ⟨rfl, rfl, rfl⟩⟩
  · simp [Value.cells] at hcs
    obtain ⟨rfl, rfl, rfl⟩ := hcs
    simp only [if_true] at hz
    exact ⟨zs, .inr ⟨_, rfl, by omega, by omega, hcell, hwz⟩⟩
end

set_option maxRecDepth 100000 in
theorem lifted (os : Os) (started : os.Started) (H : Type) (enc : TypeId × Value → H) :
    ReturnsInHanded {} Try.checked os 3 .any (Rows.fnHeardKeepsLatestTickInAnyOrderSpec.pre6 enc Try.prog Try.f3 Rows.fnHeardKeepsLatestTickInAnyOrderRow.domain false) (Rows.fnHeardKeepsLatestTickInAnyOrderSpec.post enc Try.prog Try.f3 false true false false) := by
  refine returnsInHanded_of_change (C := Try.checked) own started (by kernel_rfl) Try.func3
    (ChangeSpec.witness6 (enc := enc) (C := Try.checked) false ⟨#[], #[.string ByteArray.empty, .bool false, .slice none 0 0, .slice none 0 0, .slice none 0 0, .slice none 0 0, .slice none 0 0], []⟩ 8 (by kernel_rfl) (by kernel_rfl) (by kernel_rfl) (by kernel_rfl)) ?_
  intro W base args ds gs before hval0 hW hcnd _
  have hval : ∀ (j : Nat) t v, Try.f3.params[j]? = some t → args[j]? = some v → Value.okWide Try.prog W .any base t v := hval0
  have hW' := hW
  obtain ⟨p, q, hA0, hV, rfl, hfz, hnd⟩ := hW
  have hA : DataW.TrodAll enc Try.prog W 0 (fun _ => true) true Try.f3.params.toList args.toList ds p := hA0
  rw [Try.params3] at hA hval
  obtain ⟨v0, vs0, d0, ds0, p0, q0, hargs, rfl, rfl, h0, r0⟩ := trodAll_cons hA
  obtain ⟨v1, vs1, d1, ds1, p1, q1, rfl, rfl, rfl, h1, r1⟩ := trodAll_cons r0
  obtain ⟨v2, vs2, d2, ds2, p2, q2, rfl, rfl, rfl, h2, r2⟩ := trodAll_cons r1
  obtain ⟨v3, vs3, d3, ds3, p3, q3, rfl, rfl, rfl, h3, r3⟩ := trodAll_cons r2
  obtain ⟨v4, vs4, d4, ds4, p4, q4, rfl, rfl, rfl, h4, r4⟩ := trodAll_cons r3
  obtain ⟨v5, vs5, d5, ds5, p5, q5, rfl, rfl, rfl, h5, r5⟩ := trodAll_cons r4
  obtain ⟨v6, vs6, d6, ds6, p6, q6, rfl, rfl, rfl, h6, r6⟩ := trodAll_cons r5
  obtain ⟨rfl, rfl, rfl⟩ := trodAll_nil r6
  obtain rfl : args = #[v0, v1, v2, v3, v4, v5, v6] := by cases args; simp_all
  obtain ⟨rfl, rfl⟩ := trodVars_none hV
  obtain ⟨a0, rfl, rfl, rfl, w0⟩ := open_string Try.underlying9 (hval 0 9 v0 rfl rfl) h0
  obtain ⟨a1, rfl, rfl, rfl⟩ := open_bool Try.underlying4 (hval 1 4 v1 rfl rfl) h1
  obtain ⟨a2, l2, c2, rfl⟩ := okWide_slice Try.underlying22 (hval 2 22 v2 rfl rfl)
  have k2 := h2
  have lt2 : ∀ x ∈ p2, x.block < W.heap.size := by obtain ⟨m, hm⟩ := k2; exact DataW.trod_lt m _ _ _ hm
  obtain ⟨z2, w2⟩ : ∃ ss, IsStrs W a2 l2 c2 ss := by obtain ⟨fuel, hf⟩ := h2; exact strs_open hf
  obtain ⟨a3, l3, c3, rfl⟩ := okWide_slice Try.underlying22 (hval 3 22 v3 rfl rfl)
  have k3 := h3
  have lt3 : ∀ x ∈ p3, x.block < W.heap.size := by obtain ⟨m, hm⟩ := k3; exact DataW.trod_lt m _ _ _ hm
  obtain ⟨z3, w3⟩ : ∃ ss, IsStrs W a3 l3 c3 ss := by obtain ⟨fuel, hf⟩ := h3; exact strs_open hf
  obtain ⟨a4, l4, c4, rfl⟩ := okWide_slice Try.underlying23 (hval 4 23 v4 rfl rfl)
  have k4 := h4
  have lt4 : ∀ x ∈ p4, x.block < W.heap.size := by obtain ⟨m, hm⟩ := k4; exact DataW.trod_lt m _ _ _ hm
  obtain ⟨z4, w4⟩ : ∃ zs, IsInts W a4 l4 c4 zs := by obtain ⟨fuel, hf⟩ := h4; exact ints_open hf
  obtain ⟨a5, l5, c5, rfl⟩ := okWide_slice Try.underlying22 (hval 5 22 v5 rfl rfl)
  have k5 := h5
  have lt5 : ∀ x ∈ p5, x.block < W.heap.size := by obtain ⟨m, hm⟩ := k5; exact DataW.trod_lt m _ _ _ hm
  obtain ⟨z5, w5⟩ : ∃ ss, IsStrs W a5 l5 c5 ss := by obtain ⟨fuel, hf⟩ := h5; exact strs_open hf
  obtain ⟨a6, l6, c6, rfl⟩ := okWide_slice Try.underlying23 (hval 6 23 v6 rfl rfl)
  have k6 := h6
  have lt6 : ∀ x ∈ p6, x.block < W.heap.size := by obtain ⟨m, hm⟩ := k6; exact DataW.trod_lt m _ _ _ hm
  obtain ⟨z6, w6⟩ : ∃ zs, IsInts W a6 l6 c6 zs := by obtain ⟨fuel, hf⟩ := h6; exact ints_open hf
  clear hA0 hval0
  refine (walk a0 a1 a2 a3 a4 a5 a6 l2 c2 l3 c3 l4 c4 l5 c5 l6 c6 z2 z3 z5 z4 z6 W w0 w2 w3 w4 w5 w6).mono fun e W' ⟨he, bel⟩ => ?_
  subst he
  exact ⟨_, rfl, _, _, _, [], _, [], hW', trodAll_mk1 (shut_bool Try.underlying4 _), (trodAll_cons_mk (shut_string Try.underlying9 w0) (trodAll_cons_mk (shut_bool Try.underlying4 _) (trodAll_cons_mk (Below.trod laidOut (by kernel_rfl) (of_decide_eq_true (by kernel_rfl)) k2 bel lt2) (trodAll_cons_mk (Below.trod laidOut (by kernel_rfl) (of_decide_eq_true (by kernel_rfl)) k3 bel lt3) (trodAll_cons_mk (Below.trod laidOut (by kernel_rfl) (of_decide_eq_true (by kernel_rfl)) k4 bel lt4) (trodAll_cons_mk (Below.trod laidOut (by kernel_rfl) (of_decide_eq_true (by kernel_rfl)) k5 bel lt5) (trodAll_cons_mk (Below.trod laidOut (by kernel_rfl) (of_decide_eq_true (by kernel_rfl)) k6 bel lt6) trodAll_mk0))))))), rfl, bel.frame _, fun h => by cases h⟩

theorem over : Rows.fnHeardKeepsLatestTickInAnyOrderRow.holds Try.pinned (OpenSpec.ofChange Rows.fnHeardKeepsLatestTickInAnyOrderSpec) :=
  OpenClaim.holds_of_wide 3 Try.f3 rfl rfl rfl rfl rfl rfl rfl ⟨rfl, rfl, rfl, rfl, rfl⟩ rfl rfl rfl rfl rfl (by kernel_rfl) Try.func3 (by kernel_rfl)
    (of_decide_eq_true (by kernel_rfl)) (by unfold Func.isWrapper; first | (rw [if_pos (by decide +kernel)]; kernel_rfl) | (rw [if_neg (by decide +kernel)]; exact ⟨rfl, rfl⟩))
    (fun os started H enc _ => lifted os started H enc)

/-- THE STATEMENT. -/
theorem proved : Rows.FnHeardKeepsLatestTickInAnyOrderSaid := over
#print axioms proved

end Go.Proofs.Qxb6617562a
