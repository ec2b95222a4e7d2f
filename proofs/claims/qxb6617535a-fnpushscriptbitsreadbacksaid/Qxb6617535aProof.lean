/-
  Seat b6617535a. 'Rows.FnPushScriptBitsReadBackSaid' proved: the law outside its guards, the row's step, the statement.
-/
import Derived.Test.Qxb6617535aMain
import Derived.ProofKit
import Derived.OpenShut
import Derived.ShutString
import Derived.ChangeOld
namespace Go.Proofs.Qxb6617535a
open Go.ChangeShapes Go.WideShapes Go.ChangeAt Go.RowKit

set_option maxHeartbeats 2000000 in
set_option maxRecDepth 100000 in
/-- THE LAW outside its guards: true at once. -/
theorem law_out (a0 a2 : Option Addr) (n cap0 K cap2 : Nat) (d : Int) (w : World) (hn : n ≤ 9223372036854775807) (hK : K ≤ 9223372036854775807) (hd1 : -9223372036854775808 ≤ d) (hd2 : d ≤ 9223372036854775807)
    (h : 131072 < n ∨ 1048576 < K ∨ 1048576 < n * 8 + K ∨ d < 0 ∨ (n : Int) < d / 64) :
    Calls Try.prog 3 #[.slice a0 n cap0, .int .i64 d, .slice a2 K cap2] w fun e w' => e = .returned (.bool true) ∧ Below w.heap.size w w' := by
  have HH : Hid (131072 < n ∨ 1048576 < K ∨ 1048576 < n * 8 + K ∨ d < 0 ∨ (n : Int) < d / 64) := h
  clear h
  go_enter Try.func3, Try.ntmps3
  go_wp2_with fail
  refine (bytes_any a0 a2 n cap0 K cap2 d w hn hK).mono ?_
  rintro e w' ⟨⟨r, rfl⟩, rfl⟩
  cases r
  · go_wp2
    go_ret
    exact ⟨rfl, Below.refl _ _⟩
  by_cases c1 : (131072 : Int) < (n : Int)
  · go_wp2
    go_ret
    exact ⟨rfl, Below.refl _ _⟩
  by_cases c2 : (1048576 : Int) < (K : Int)
  · go_wp2
    go_ret
    exact ⟨rfl, Below.refl _ _⟩
  by_cases c3 : (1048576 : Int) < (n : Int) * 8 + (K : Int)
  · go_wp2
    go_ret
    exact ⟨rfl, Below.refl _ _⟩
  by_cases c4 : d < 0
  · go_wp2
    go_ret
    exact ⟨rfl, Below.refl _ _⟩
  have c5 : (n : Int) < d / 64 := by have := HH.out; omega
  go_wp2
  go_ret
  exact ⟨rfl, Below.refl _ _⟩

section
variable {H : Type} {enc : TypeId × Value → H} {P : Program} {w : World} {base : Nat} {spare : Nat → Bool} {held : Bool}

/-- A slice of bools that came in: it is nil, or each of its elements' cells holds a bool. -/
theorem bool_cells {t e : TypeId} {fuel : Nat} {cs : List Value} {x : DataW H × List MemPlace} (ht : P.underlying t = some (.slice e)) (he : P.underlying e = some .bool) (hc : P.cellsOf e = 1)
    (h : DataW.trod enc P w base spare held fuel t cs = some x) :
    cs = [.slice none 0 0] ∨ ∃ (a : Addr) (len cap : Nat), cs = [.slice (some a) len cap] ∧ len ≤ cap ∧ cap ≤ maxLen ∧ ∀ i, i < len → ∃ b, w.cell? (a.add i) = some (.bool b) := by
  rcases DataW.trod_slice ht h with ⟨h0, _⟩ | ⟨a, len, cap, elems, rest, n, _, rfl, _, _, hl, hm, hlen, hel, _, _⟩
  · exact .inl h0
  · refine .inr ⟨a, len, cap, rfl, hl, hm, fun i hi => ?_⟩
    have h1 := hel i hi
    rw [List.getElem?_eq_getElem (by omega), hc, Nat.mul_one, Option.bind_eq_some_iff] at h1
    obtain ⟨cs', h2, h3⟩ := h1
    obtain ⟨b, rfl, _⟩ := DataW.trod_bool he h3
    exact ⟨b, cell_of_cells?_one h2⟩
end

/-- WHAT THE WALK IS TOLD OF A SLICE OF WORDS THAT CAME IN. -/
def IsWords (w : World) (a : Option Addr) (len cap : Nat) (zs : List Int) : Prop :=
  (a = none ∧ len = 0 ∧ cap = 0) ∨
  ∃ x, a = some x ∧ len ≤ cap ∧ cap ≤ maxLen ∧ zs.length = cap ∧ (∀ i, i < zs.length → w.cell? (x.add i) = some (.int .u64 (zs.getD i 0))) ∧ ∀ n ∈ zs, (Lit.int .u64 n).wf = true
/-- WHAT THE WALK IS TOLD OF A SLICE OF BOOLS THAT CAME IN. -/
def IsBools (w : World) (a : Option Addr) (len cap : Nat) : Prop :=
  (a = none ∧ len = 0 ∧ cap = 0) ∨ ∃ x, a = some x ∧ len ≤ cap ∧ cap ≤ maxLen ∧ ∀ i, i < len → ∃ b, w.cell? (x.add i) = some (.bool b)

/-- The bool in a cell. -/
def boolOf : Option Value → Bool
  | some (.bool b) => b
  | _ => false

theorem getD_take (zs : List Int) (len j : Nat) (h : j < len) : (zs.take len).getD j 0 = zs.getD j 0 := by
  simp [List.getD, h]

theorem row_in {w : World} {a : Option Addr} {len cap : Nat} {zs : List Int} (h : IsWords w a len cap zs) : ∃ ws, Row w a len ws ∧ Words ws ∧ (a = none → len = 0) ∧ len ≤ 9223372036854775807 := by
  rcases h with ⟨rfl, rfl, rfl⟩ | ⟨x, rfl, hl, hm, hz, hcell, hwz⟩
  · exact ⟨[], ⟨rfl, fun h => by omega⟩, fun x hx => by simp at hx, fun _ => rfl, by omega⟩
  · unfold maxLen at hm
    refine ⟨zs.take len, ⟨by rw [List.length_take]; omega, fun h0 => ?_⟩, fun y hy => ?_, (fun h => by cases h), by omega⟩
    · obtain ⟨b, off, spot⟩ := x
      have hc := hcell 0 (by omega)
      have hspot : spot = none := by simpa [Addr.add] using World.cell?_spot hc
      subst hspot
      have hb : b < w.heap.size := by
        have := block_lt_of_cell hc
        simpa [Addr.add] using this
      refine ⟨b, off, rfl, hb, fun j hj => ?_⟩
      have := hcell j (by omega)
      rw [add_plain] at this
      rw [getD_take zs len j hj]
      exact this
    · have := bounds_u64 (hwz y (List.mem_of_mem_take hy))
      omega

theorem objs_in {w : World} {a : Option Addr} {len cap : Nat} (h : IsBools w a len cap) : ∃ f : Nat → Bool, (∀ j, j < len → ∃ b off, a = some ⟨b, off, none⟩ ∧ b < w.heap.size ∧ w.cell? ⟨b, off + j, none⟩ = some (.bool (f j))) ∧ len ≤ 9223372036854775807 := by
  rcases h with ⟨rfl, rfl, rfl⟩ | ⟨x, rfl, hl, hm, hcell⟩
  · exact ⟨fun _ => false, fun j hj => by omega, by omega⟩
  · unfold maxLen at hm
    refine ⟨fun j => boolOf (w.cell? (x.add j)), fun j hj => ?_, by omega⟩
    obtain ⟨b, off, spot⟩ := x
    obtain ⟨v, hc⟩ := hcell j hj
    obtain ⟨v0, hc0⟩ := hcell 0 (by omega)
    have hspot : spot = none := by
      have := World.cell?_spot hc0
      simpa [Addr.add] using this
    subst hspot
    refine ⟨b, off, rfl, ?_, ?_⟩
    · have := block_lt_of_cell hc0
      simpa [Addr.add] using this
    · show w.cell? ⟨b, off + j, none⟩ = some (.bool (boolOf (w.cell? ((⟨b, off, none⟩ : Addr).add j))))
      rw [hc]
      rw [add_plain] at hc
      exact hc

/-- THE WALK: the Go text returns true, and writes nothing that was there. -/
theorem walk (a0 : Option Addr) (len0 cap0 : Nat) (z0 : List Int) (d : Int) (a2 : Option Addr) (len2 cap2 : Nat) (w : World) (w0 : IsWords w a0 len0 cap0 z0) (w1 : (Lit.int .i64 d).wf = true) (w2 : IsBools w a2 len2 cap2) :
    Calls Try.prog 3 #[.slice a0 len0 cap0, .int .i64 d, .slice a2 len2 cap2] w fun e w' => e = .returned (.bool true) ∧ Below w.heap.size w w' := by
  have hd := bounds_i64 w1
  obtain ⟨ws, hr, hw, hnone, hl0⟩ := row_in w0
  obtain ⟨f, ho, hl2⟩ := objs_in w2
  by_cases h : 131072 < len0 ∨ 1048576 < len2 ∨ 1048576 < len0 * 8 + len2 ∨ d < 0 ∨ (len0 : Int) < d / 64
  · exact law_out a0 a2 len0 cap0 len2 cap2 d w hl0 hl2 hd.1 hd.2 h
  · obtain ⟨dn, rfl⟩ := Int.eq_ofNat_of_zero_le (show 0 ≤ d by omega)
    exact law_in a0 a2 len0 cap0 len2 cap2 dn ws f w hr hnone hw ho (by omega) (by omega) (by omega) (by omega)

theorem own : ownKnob Try.prog.godebug = none := by kernel_rfl
theorem laidOut : laidOutB Try.prog = true := by kernel_rfl

set_option maxRecDepth 100000 in
theorem lifted (os : Os) (started : os.Started) (H : Type) (enc : TypeId × Value → H) :
    ReturnsInHanded {} Try.checked os 3 .any (Rows.fnPushScriptBitsReadBackSpec.pre6 enc Try.prog Try.f3 Rows.fnPushScriptBitsReadBackRow.domain false) (Rows.fnPushScriptBitsReadBackSpec.post enc Try.prog Try.f3 false true false false) := by
  refine returnsInHanded_of_change (C := Try.checked) own started (by kernel_rfl) Try.func3
    (ChangeSpec.witness6 (enc := enc) (C := Try.checked) false ⟨#[], #[.slice none 0 0, .int .i64 0, .slice none 0 0], []⟩ 8 (by kernel_rfl) (by kernel_rfl) (by kernel_rfl) (by kernel_rfl)) ?_
  intro W base args ds gs before hval0 hW hcnd _
  have hval : ∀ (j : Nat) t v, Try.f3.params[j]? = some t → args[j]? = some v → Value.okWide Try.prog W .any base t v := hval0
  have hW' := hW
  obtain ⟨p, q, hA0, hV, rfl, hfz, hnd⟩ := hW
  have hA : DataW.TrodAll enc Try.prog W 0 (fun _ => true) true Try.f3.params.toList args.toList ds p := hA0
  rw [Try.params3] at hA hval
  obtain ⟨v0, vs0, d0, ds0, p0, q0, hargs, rfl, rfl, h0, r0⟩ := trodAll_cons hA
  obtain ⟨v1, vs1, d1, ds1, p1, q1, rfl, rfl, rfl, h1, r1⟩ := trodAll_cons r0
  obtain ⟨v2, vs2, d2, ds2, p2, q2, rfl, rfl, rfl, h2, r2⟩ := trodAll_cons r1
  obtain ⟨rfl, rfl, rfl⟩ := trodAll_nil r2
  obtain rfl : args = #[v0, v1, v2] := by cases args; simp_all
  obtain ⟨rfl, rfl⟩ := trodVars_none hV
  obtain ⟨a0, len0, cap0, rfl⟩ := okWide_slice Try.underlying22 (hval 0 22 v0 rfl rfl)
  have k0 := h0
  have lt0 : ∀ x ∈ p0, x.block < W.heap.size := by obtain ⟨m, hm⟩ := k0; exact DataW.trod_lt m _ _ _ hm
  obtain ⟨z0, w0⟩ : ∃ zs, IsWords W a0 len0 cap0 zs := by
    obtain ⟨fuel, hf⟩ := h0
    rcases open_ints Try.underlying22 Try.underlying29 (by kernel_rfl) hf with ⟨hcs, _⟩ | ⟨x, l, c, zs, hcs, _, hl, hm, hz, _, hcell, hwz⟩
    · simp [Value.cells] at hcs
      obtain ⟨rfl, rfl, rfl⟩ := hcs
      exact ⟨[], .inl ⟨rfl, rfl, rfl⟩⟩
    · simp [Value.cells] at hcs
      obtain ⟨rfl, rfl, rfl⟩ := hcs
      exact ⟨zs, .inr ⟨_, rfl, hl, hm, by simpa using hz, hcell, hwz⟩⟩
  obtain ⟨a1, rfl, rfl, rfl, w1⟩ := open_int Try.underlying3 (hval 1 3 v1 rfl rfl) h1
  obtain ⟨a2, len2, cap2, rfl⟩ := okWide_slice Try.underlying23 (hval 2 23 v2 rfl rfl)
  have k2 := h2
  have lt2 : ∀ x ∈ p2, x.block < W.heap.size := by obtain ⟨m, hm⟩ := k2; exact DataW.trod_lt m _ _ _ hm
  have w2 : IsBools W a2 len2 cap2 := by
    obtain ⟨fuel, hf⟩ := h2
    rcases bool_cells Try.underlying23 Try.underlying4 (by kernel_rfl) hf with hcs | ⟨x, l, c, hcs, hl, hm, hcell⟩
    · simp [Value.cells] at hcs
      obtain ⟨rfl, rfl, rfl⟩ := hcs
      exact .inl ⟨rfl, rfl, rfl⟩
    · simp [Value.cells] at hcs
      obtain ⟨rfl, rfl, rfl⟩ := hcs
      exact .inr ⟨_, rfl, hl, hm, hcell⟩
  clear hA0 hval0
  refine (walk a0 len0 cap0 z0 a1 a2 len2 cap2 W w0 w1 w2).mono fun e W' ⟨he, bel⟩ => ?_
  subst he
  exact ⟨_, rfl, _, _, _, [], _, [], hW', trodAll_mk1 (shut_bool Try.underlying4 _), (trodAll_cons_mk (Below.trod laidOut (by kernel_rfl) (of_decide_eq_true (by kernel_rfl)) k0 bel lt0) (trodAll_cons_mk (shut_int Try.underlying3 w1) (trodAll_cons_mk (Below.trod laidOut (by kernel_rfl) (of_decide_eq_true (by kernel_rfl)) k2 bel lt2) trodAll_mk0))), rfl, bel.frame _, fun h => by cases h⟩

theorem over : Rows.fnPushScriptBitsReadBackRow.holds Try.pinned (OpenSpec.ofChange Rows.fnPushScriptBitsReadBackSpec) :=
  OpenClaim.holds_of_wide 3 Try.f3 rfl rfl rfl rfl rfl rfl rfl ⟨rfl, rfl, rfl, rfl, rfl⟩ rfl rfl rfl rfl rfl (by kernel_rfl) Try.func3 (by kernel_rfl)
    (of_decide_eq_true (by kernel_rfl)) (by unfold Func.isWrapper; first | (rw [if_pos (by decide +kernel)]; kernel_rfl) | (rw [if_neg (by decide +kernel)]; exact ⟨rfl, rfl⟩))
    (fun os started H enc _ => lifted os started H enc)

/-- THE STATEMENT. -/
theorem proved : Rows.FnPushScriptBitsReadBackSaid := over
#print axioms proved

end Go.Proofs.Qxb6617535a
