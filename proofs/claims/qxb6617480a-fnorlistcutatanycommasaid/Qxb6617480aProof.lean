/-
  Seat b6617480a. 'Rows.FnOrListCutAtAnyCommaSaid' proved: the law at an empty slice, the row's step, the statement.
-/
import Derived.Test.Qxb6617480aMain
import Derived.Test.Qxb6617480aShelf
import Derived.ProofKit
import Derived.OpenShut
import Derived.ShutString
import Derived.ChangeOld
import Derived.SliceStrings
namespace Go.Proofs.Qxb6617480a
open Go.ChangeShapes Go.WideShapes Go.ChangeAt Go.RowKit

theorem joinSaid : JoinSaid := fun bk o c xs sep w h1 h2 h3 h4 h5 => Try.strings_Join bk o c xs sep w h1 h2 h3 h4 h5

set_option maxHeartbeats 1000000 in
theorem law_nil (cap : Nat) (x : Int) (w : World) :
    Calls Try.prog 3 #[.slice none 0 cap, .int .i64 x] w fun e w' => e = .returned (.bool true) ∧ Below w.heap.size w w' := by
  have hnn := fun w n c => run_neq_slice_nil_any (P := Try.prog) w 22 9 none n c 0 0 Try.underlying22
  go_enter Try.func3, Try.ntmps3
  go_wp2_with fail
  refine (bytes_none none cap x w).mono ?_
  rintro e w' ⟨⟨r, rfl⟩, rfl⟩
  cases r
  · go_wp2
    go_ret
    exact ⟨rfl, Below.refl _ _⟩
  · go_wp2
    refine wp_loop_rounds 1 ?_
    rw [rounds_succ]
    go_wp2
    go_ret
    exact ⟨rfl, Below.refl _ _⟩

set_option maxHeartbeats 1000000 in
theorem law_empty (ad : Addr) (cap : Nat) (x : Int) (w : World) :
    Calls Try.prog 3 #[.slice (some ad) 0 cap, .int .i64 x] w fun e w' => e = .returned (.bool true) ∧ Below w.heap.size w w' := by
  obtain ⟨i0, hi, hz0, hz1, hz2⟩ := info_parts Try.info9
  have hnn := fun w n c => run_neq_slice_nil_any (P := Try.prog) w 22 9 (some ad) n c 0 0 Try.underlying22
  go_enter Try.func3, Try.ntmps3
  go_wp2_with fail
  refine (bytes_none (some ad) cap x w).mono ?_
  rintro e w' ⟨⟨r, rfl⟩, rfl⟩
  cases r
  · go_wp2
    go_ret
    exact ⟨rfl, Below.refl _ _⟩
  · go_wp2_with (at_make; refine wpList_make_full _ rfl _ _ 22 rfl w'.heap.size 9 i0 (.string ByteArray.empty) 1 Try.underlying22 hi hz0 hz1 _ _ _ _ 0 rfl rfl (by omega) (by omega) (by rw [hz2]; omega) (by unfold maxLen; omega) (Nat.le_refl _) ?_)
    intro w1 hown1 hgrow1
    have HB1 : Hid (Below w'.heap.size w' w1) := (Below.refl _ _).grown hgrow1 (Nat.le_refl _) (fun j hj => by cases hj)
    clear hown1 hgrow1 hnn
    go_wp2_with (refine wpList_copy_nothing rfl (.tmp 24) (.tmp 25) 22 22 rfl 9 Try.underlying22 Try.size9 _ _ _ _ _ _ rfl rfl rfl ?_)
    go_wp2
    refine wp_loop_rounds 1 ?_
    rw [rounds_succ]
    go_wp2
    go_ret
    exact ⟨rfl, HB1.out⟩

/-- WHAT THE WALK IS TOLD OF A SLICE OF TEXTS THAT CAME IN: it is nil; or it leads to cells that hold the texts 'ss', its elements first. -/
def IsStrs (w : World) (a : Option Addr) (len cap : Nat) (ss : List ByteArray) : Prop :=
  (a = none ∧ len = 0 ∧ cap = 0) ∨
  ∃ x, a = some x ∧ len ≤ ss.length ∧ len ≤ maxLen ∧ (∀ i, i < ss.length → w.cell? (x.add i) = some (.string (ss.getD i ByteArray.empty))) ∧ ∀ s ∈ ss, s.size ≤ maxLen

theorem getD_size (ss : List ByteArray) (h : ∀ s ∈ ss, s.size ≤ maxLen) (j : Nat) : (ss.getD j ByteArray.empty).size ≤ 9223372036854775807 := by
  by_cases hj : j < ss.length
  · have : ss.getD j ByteArray.empty = ss[j] := by simp [List.getD, hj]
    rw [this]
    have := h ss[j] (List.getElem_mem hj)
    unfold maxLen at this
    omega
  · have : ss.getD j ByteArray.empty = ByteArray.empty := by simp [List.getD, Nat.le_of_not_lt hj]
    rw [this]
    have : (ByteArray.empty).size = 0 := rfl
    omega

theorem getD_take (ss : List ByteArray) (len j : Nat) (h : j < len) : (ss.take len).getD j ByteArray.empty = ss.getD j ByteArray.empty := by
  simp [List.getD, h]

/-- THE WALK: the Go text returns true, and writes nothing that was there. -/
theorem walk (a0 : Option Addr) (len cap : Nat) (ss : List ByteArray) (x : Int) (w : World) (w0 : IsStrs w a0 len cap ss) (w1 : (Lit.int .i64 x).wf = true) :
    Calls Try.prog 3 #[.slice a0 len cap, .int .i64 x] w fun e w' => e = .returned (.bool true) ∧ Below w.heap.size w w' := by
  have hx := bounds_i64 w1
  rcases w0 with ⟨rfl, rfl, rfl⟩ | ⟨ad, rfl, hl, hm, hcell, hsz⟩
  · exact law_nil 0 x w
  · by_cases h0 : len = 0
    · subst h0
      exact law_empty ad cap x w
    · obtain ⟨b, off, spot⟩ := ad
      have hc := hcell 0 (by omega)
      have hspot : spot = none := by simpa [Addr.add] using World.cell?_spot hc
      subst hspot
      have hb : b < w.heap.size := by
        have := block_lt_of_cell hc
        simpa [Addr.add] using this
      unfold maxLen at hm
      refine law_some joinSaid b off len cap (ss.take len) x w hb (by rw [List.length_take]; omega) (by omega) hm hx.1 hx.2 (fun j hj => ?_) (getD_size _ (fun s hs => hsz s (List.mem_of_mem_take hs)))
      have := hcell j (by omega)
      rw [add_plain] at this
      rw [getD_take ss len j hj]
      exact this

theorem own : ownKnob Try.prog.godebug = none := by kernel_rfl
theorem laidOut : laidOutB Try.prog = true := by kernel_rfl

set_option maxRecDepth 100000 in
theorem lifted (os : Os) (started : os.Started) (H : Type) (enc : TypeId × Value → H) :
    ReturnsInHanded {} Try.checked os 3 .any (Rows.fnOrListCutAtAnyCommaSpec.pre6 enc Try.prog Try.f3 Rows.fnOrListCutAtAnyCommaRow.domain false) (Rows.fnOrListCutAtAnyCommaSpec.post enc Try.prog Try.f3 false true false false) := by
  refine returnsInHanded_of_change (C := Try.checked) own started (by kernel_rfl) Try.func3
    (ChangeSpec.witness6 (enc := enc) (C := Try.checked) false ⟨#[], #[.slice none 0 0, .int .i64 0], []⟩ 8 (by kernel_rfl) (by kernel_rfl) (by kernel_rfl) (by kernel_rfl)) ?_
  intro W base args ds gs before hval0 hW hcnd _
  have hval : ∀ (j : Nat) t v, Try.f3.params[j]? = some t → args[j]? = some v → Value.okWide Try.prog W .any base t v := hval0
  have hW' := hW
  obtain ⟨p, q, hA0, hV, rfl, hfz, hnd⟩ := hW
  have hA : DataW.TrodAll enc Try.prog W 0 (fun _ => true) true Try.f3.params.toList args.toList ds p := hA0
  rw [Try.params3] at hA hval
  obtain ⟨v0, vs0, d0, ds0, p0, q0, hargs, rfl, rfl, h0, r0⟩ := trodAll_cons hA
  obtain ⟨v1, vs1, d1, ds1, p1, q1, rfl, rfl, rfl, h1, r1⟩ := trodAll_cons r0
  obtain ⟨rfl, rfl, rfl⟩ := trodAll_nil r1
  obtain rfl : args = #[v0, v1] := by cases args; simp_all
  obtain ⟨rfl, rfl⟩ := trodVars_none hV
  obtain ⟨a0, len0, cap0, rfl⟩ := okWide_slice Try.underlying22 (hval 0 22 v0 rfl rfl)
  have k0 := h0
  have lt0 : ∀ x ∈ p0, x.block < W.heap.size := by obtain ⟨m, hm⟩ := k0; exact DataW.trod_lt m _ _ _ hm
  obtain ⟨z0, w0⟩ : ∃ ss, IsStrs W a0 len0 cap0 ss := by
    obtain ⟨fuel, hf⟩ := h0
    rcases open_strings Try.underlying22 Try.underlying9 (by kernel_rfl) hf with ⟨hcs, _⟩ | ⟨x, l, c, ss, hcs, _, hl, hm, hz, _, hcell, hwz⟩
    · simp [Value.cells] at hcs
      obtain ⟨rfl, rfl, rfl⟩ := hcs
      exact ⟨[], .inl ⟨rfl, rfl, rfl⟩⟩
    · simp [Value.cells] at hcs
      obtain ⟨rfl, rfl, rfl⟩ := hcs
      simp only [if_true] at hz
      exact ⟨ss, .inr ⟨_, rfl, by omega, by omega, hcell, hwz⟩⟩
  obtain ⟨a1, rfl, rfl, rfl, w1⟩ := open_int Try.underlying3 (hval 1 3 v1 rfl rfl) h1
  clear hA0 hval0
  refine (walk a0 len0 cap0 z0 a1 W w0 w1).mono fun e W' ⟨he, bel⟩ => ?_
  subst he
  exact ⟨_, rfl, _, _, _, [], _, [], hW', trodAll_mk1 (shut_bool Try.underlying4 _), (trodAll_cons_mk (Below.trod laidOut (by kernel_rfl) (of_decide_eq_true (by kernel_rfl)) k0 bel lt0) (trodAll_cons_mk (shut_int Try.underlying3 w1) trodAll_mk0)), rfl, bel.frame _, fun h => by cases h⟩

theorem over : Rows.fnOrListCutAtAnyCommaRow.holds Try.pinned (OpenSpec.ofChange Rows.fnOrListCutAtAnyCommaSpec) :=
  OpenClaim.holds_of_wide 3 Try.f3 rfl rfl rfl rfl rfl rfl rfl ⟨rfl, rfl, rfl, rfl, rfl⟩ rfl rfl rfl rfl rfl (by kernel_rfl) Try.func3 (by kernel_rfl)
    (of_decide_eq_true (by kernel_rfl)) (by unfold Func.isWrapper; first | (rw [if_pos (by decide +kernel)]; kernel_rfl) | (rw [if_neg (by decide +kernel)]; exact ⟨rfl, rfl⟩))
    (fun os started H enc _ => lifted os started H enc)

/-- THE STATEMENT. -/
theorem proved : Rows.FnOrListCutAtAnyCommaSaid := over
#print axioms proved

end Go.Proofs.Qxb6617480a
