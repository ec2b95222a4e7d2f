/-
  Seat b6617535a. Contracts of 'push' (8) and 'ZZNestingPush' (6).
-/
import Derived.Test.Qxb6617535aSmall
import Derived.Deep.AppendLies
import Derived.Deep.QuietTactic
import Derived.BigQuiet
namespace Go.Proofs.Qxb6617535a
open Go.RowKit

/-- The box of a nesting: its slice and its depth. -/
def Box (w : World) (nb : Nat) (v : Value) (d : Int) : Prop := w.heap[nb]? = some (.cells #[v, .int .i64 d] 32 (0, 0))
theorem Box.c0 {w : World} {nb : Nat} {v : Value} {d : Int} (h : Box w nb v d) : w.cell? ⟨nb, 0, none⟩ = some v := by
  rw [cell_of_row w nb 0 _ _ _ h]; rfl
theorem Box.c1 {w : World} {nb : Nat} {v : Value} {d : Int} (h : Box w nb v d) : w.cell? ⟨nb, 1, none⟩ = some (.int .i64 d) := by
  rw [cell_of_row w nb 1 _ _ _ h]; rfl
theorem Box.f {w : World} {nb : Nat} {v : Value} {d : Int} (h : Box w nb v d) (j : Nat) : w.frozen? ⟨nb, j, none⟩ = false := frozen_of_row w nb j _ _ h
theorem Box.lt {w : World} {nb : Nat} {v : Value} {d : Int} (h : Box w nb v d) : nb < w.heap.size := (Array.getElem?_eq_some_iff.1 h).1
theorem Box.set0 {w : World} {nb : Nat} {v u : Value} {d : Int} (h : Box w nb v d) : Box (w.setCell ⟨nb, 0, none⟩ u) nb u d := by
  have := heap_setCell_same w nb 0 _ _ u h
  exact this
theorem Box.set1 {w : World} {nb : Nat} {v : Value} {d d' : Int} (h : Box w nb v d) : Box (w.setCell ⟨nb, 1, none⟩ (.int .i64 d')) nb v d' := by
  have := heap_setCell_same w nb 1 _ _ (.int .i64 d') h
  exact this
theorem Box.other {w : World} {nb : Nat} {v u : Value} {d : Int} (h : Box w nb v d) {a : Addr} (ha : nb ≠ a.block) : Box (w.setCell a u) nb v d := by
  have := heap_setCell_other w a nb u ha
  exact this.trans h

theorem wrap_pow (k : Nat) (hk : k < 64) : IntKind.u64.wrap (2 ^ k) = ((2 ^ k : Nat) : Int) := by
  have h := pow_lt k hk
  have e : ((2 ^ k : Nat) : Int) = (2 : Int) ^ k := by simp
  rw [IntKind.wrap_u64, ← e]
  clear e
  generalize (2 ^ k : Nat) = N at h ⊢
  omega

theorem or_set (x : Int) (k : Nat) (h0 : 0 ≤ x) (h1 : x < 18446744073709551616) (hk : k < 64) : bits .or .u64 x (IntKind.u64.wrap (2 ^ k)) = setBit x k true := by
  have h := pow_lt k hk
  rw [wrap_pow k hk]
  unfold setBit
  generalize (2 ^ k : Nat) = N at h ⊢
  rw [u64_or _ _ h0 h1 (by omega) (by omega), Int.toNat_natCast]
  rfl

theorem andNot_set (x : Int) (k : Nat) (h0 : 0 ≤ x) (h1 : x < 18446744073709551616) (hk : k < 64) : bits .andNot .u64 x (IntKind.u64.wrap (2 ^ k)) = setBit x k false := by
  have h := pow_lt k hk
  rw [wrap_pow k hk]
  unfold setBit
  generalize (2 ^ k : Nat) = N at h ⊢
  rw [u64_andNot _ _ h0 h1 (by omega) (by omega), Int.toNat_natCast]
  rfl

/-- The world behind a push: the word stored, the depth raised. -/
theorem push_fin {B nb g n cp d : Nat} {ws P : List Int} {y : Int} {w : World} (hbox : Box w nb (.slice (some ⟨g, 0, none⟩) n cp) d) (hB : B ≤ nb) (hgn : g ≠ nb)
    (hown : w.ownsRow B 29 1 (.slice (some ⟨g, 0, none⟩) n cp) n (wcs ws)) (hp : P = ws.set (d / 64) y) :
    Box ((w.setCell ⟨g, d / 64, none⟩ (.int .u64 y)).setCell ⟨nb, 1, none⟩ (.int .i64 ((d : Int) + 1))) nb (.slice (some ⟨g, 0, none⟩) n cp) ((d : Int) + 1) ∧ n = P.length ∧
    ((w.setCell ⟨g, d / 64, none⟩ (.int .u64 y)).setCell ⟨nb, 1, none⟩ (.int .i64 ((d : Int) + 1))).ownsRow B 29 1 (.slice (some ⟨g, 0, none⟩) n cp) n (wcs P) ∧
    Below B w ((w.setCell ⟨g, d / 64, none⟩ (.int .u64 y)).setCell ⟨nb, 1, none⟩ (.int .i64 ((d : Int) + 1))) := by
  have hst := (hown.stored (d / 64) (.int .u64 y)).1
  rw [wcs_set, ← hp] at hst
  have hlen := hst.1
  rw [wcs_length] at hlen
  have hBg := (hown.lt g rfl).1
  refine ⟨Box.set1 (Box.other hbox (fun h => hgn h.symm)), by omega, ownsRow_setCell_other hst (a := ⟨nb, 1, none⟩) (fun h => hgn (by simpa [Value.ownBlock] using h)) _, ?_⟩
  exact ((Below.refl B w).setCell hBg _).setCell hB _

theorem pushW_in (ws : List Int) (d : Nat) (b : Bool) (h : d / 64 < ws.length) : pushW ws d b = ws.set (d / 64) (setBit (ws.getD (d / 64) 0) (d % 64) b) := by
  have : grow ws (d / 64) = ws := by unfold grow; rw [if_neg (by omega)]
  rw [pushW, this]

theorem pushW_out (ws : List Int) (d : Nat) (b : Bool) (h : d / 64 = ws.length) : pushW ws d b = (ws ++ [0]).set (d / 64) (setBit 0 (d % 64) b) := by
  have : grow ws (d / 64) = ws ++ [0] := by unfold grow; rw [if_pos h]
  rw [pushW, grow_getD, this]
  have e : ws.getD (d / 64) 0 = 0 := by rw [h]; simp [List.getD]
  rw [e]

set_option maxHeartbeats 2000000 in
theorem push_in (B nb g n cp d : Nat) (ws : List Int) (b : Bool) (w : World) (hbox : Box w nb (.slice (some ⟨g, 0, none⟩) n cp) d)
    (hB : B ≤ nb) (hgn : g ≠ nb) (hn : n = ws.length) (hw : Words ws) (hd : d / 64 < n) (hdm : d ≤ 100000000)
    (hown : w.ownsRow B 29 1 (.slice (some ⟨g, 0, none⟩) n cp) n (wcs ws)) :
    Calls Try.prog 8 #[.pointer (some ⟨nb, 0, none⟩), .bool b] w fun e w' => e = .returned (.tuple #[]) ∧
      (∃ g' n' cp', g' ≠ nb ∧ Box w' nb (.slice (some ⟨g', 0, none⟩) n' cp') ((d : Int) + 1) ∧ n' = (pushW ws d b).length ∧ w'.ownsRow B 29 1 (.slice (some ⟨g', 0, none⟩) n' cp') n' (wcs (pushW ws d b))) ∧ Below B w w' := by
  have HX : Hid (Box w nb (.slice (some ⟨g, 0, none⟩) n cp) d) := hbox
  have c0 := hbox.c0
  have c1 := hbox.c1
  have f0 := hbox.f 0
  have f1 := hbox.f 1
  obtain ⟨x, hx⟩ : ∃ x, x = ws.getD (d / 64) 0 := ⟨_, rfl⟩
  have hc : w.cell? ⟨g, d / 64, none⟩ = some (.int .u64 x) := by
    rw [hown.cellAt _ (by omega), wcs_at ws _ (by omega), hx]
  have hf : w.frozen? ⟨g, d / 64, none⟩ = false := hown.frozenAt _
  have hxb := words_getD hw (d / 64)
  rw [← hx] at hxb
  have hx0 := hxb.1
  have hx1 := hxb.2
  have hgn' : nb ≠ g := fun h => hgn h.symm
  have HW : Hid (Words ws) := hw
  have HO : Hid (w.ownsRow B 29 1 (.slice (some ⟨g, 0, none⟩) n cp) n (wcs ws)) := hown
  have Hn : Hid (n = ws.length) := hn
  have Hx : Hid (x = ws.getD (d / 64) 0) := hx
  have hne : (((d / 64 : Nat) : Int) == (n : Int)) = false := by rw [beq_eq_false_iff_ne]; omega
  have hne' : ((d : Int) / 64 == (n : Int)) = false := by rw [beq_eq_false_iff_ne]; omega
  clear hbox hown hn hx hw hxb
  have HP : Hid (pushW ws d b = ws.set (d / 64) (setBit x (d % 64) b)) := by
    show pushW ws d b = _
    rw [Hx.out]; exact pushW_in ws d b (by rw [← Hn.out]; exact hd)
  cases b
  · go_enter Try.func8, Try.ntmps8
    go_wp2
    go_quiet (fail)
    go_wp2
    go_end0
    rw [andNot_set x (d % 64) hx0 hx1 (Nat.mod_lt _ (by omega))]
    obtain ⟨k1, k2, k3, k4⟩ := push_fin (w := w.drewN nq) HX.out hB hgn HO.out HP.out
    exact ⟨rfl, ⟨g, n, cp, hgn, k1, k2, k3⟩, (below_drewN (Below.refl _ _) _).trans k4⟩
  · go_enter Try.func8, Try.ntmps8
    go_wp2
    go_quiet (fail)
    go_wp2
    go_end0
    rw [or_set x (d % 64) hx0 hx1 (Nat.mod_lt _ (by omega))]
    obtain ⟨k1, k2, k3, k4⟩ := push_fin (w := w.drewN nq) HX.out hB hgn HO.out HP.out
    exact ⟨rfl, ⟨g, n, cp, hgn, k1, k2, k3⟩, (below_drewN (Below.refl _ _) _).trans k4⟩

theorem int_oneCell (k : IntKind) (n : Int) : ∀ u ∈ [Value.int k n], u.oneCell' = true := by
  intro u hu
  simp at hu
  subst hu
  rfl

set_option maxHeartbeats 2000000 in
theorem push_out (B nb n cp d : Nat) (ao : Option Addr) (ws : List Int) (b : Bool) (w : World) (hbox : Box w nb (.slice ao n cp) d)
    (hB : B ≤ nb) (hv : ∀ j, (Value.slice ao n cp).ownBlock = some j → j ≠ nb) (hn : n = ws.length) (hd : d / 64 = n) (hdm : d ≤ 100000000)
    (hown : w.ownsRow B 29 1 (.slice ao n cp) n (wcs ws)) :
    Calls Try.prog 8 #[.pointer (some ⟨nb, 0, none⟩), .bool b] w fun e w' => e = .returned (.tuple #[]) ∧
      (∃ g' n' cp', g' ≠ nb ∧ Box w' nb (.slice (some ⟨g', 0, none⟩) n' cp') ((d : Int) + 1) ∧ n' = (pushW ws d b).length ∧ w'.ownsRow B 29 1 (.slice (some ⟨g', 0, none⟩) n' cp') n' (wcs (pushW ws d b))) ∧ Below B w w' := by
  obtain ⟨i0, hi, hz0, hz1, hz2⟩ := info_parts Try.info29
  have HX : Hid (Box w nb (.slice ao n cp) d) := hbox
  have HV : Hid (∀ j, (Value.slice ao n cp).ownBlock = some j → j ≠ nb) := hv
  have c0 := hbox.c0
  have c1 := hbox.c1
  have f0 := hbox.f 0
  have f1 := hbox.f 1
  have HO : Hid (w.ownsRow B 29 1 (.slice ao n cp) n (wcs ws)) := hown
  have Hn : Hid (n = ws.length) := hn
  have Hd : Hid (d / 64 = n) := hd
  have hnm : n ≤ 100000000 := by omega
  have hdn : d / 64 < n + 1 := by omega
  have hdn' : (d : Int) / 64 < (n : Int) + 1 := by omega
  have hne' : ((d : Int) / 64 == (n : Int)) = true := by rw [beq_iff_eq]; omega
  have HP : Hid (pushW ws d b = (ws ++ [0]).set (d / 64) (setBit 0 (d % 64) b)) := pushW_out ws d b (by rw [← Hn.out]; exact hd)
  clear hbox hown hn hd hv
  cases b
  · go_enter Try.func8, Try.ntmps8
    go_wp2
    go_quiet (fail)
    obtain ⟨wq, hwq⟩ : ∃ wq, wq = w.drewN nq := ⟨_, rfl⟩
    have HXq : Hid (Box wq nb (.slice ao n cp) d) := by show Box _ _ _ _; rw [hwq]; exact HX.out
    have HOq : Hid (wq.ownsRow B 29 1 (.slice ao n cp) n (wcs ws)) := by show wq.ownsRow _ _ _ _ _ _; rw [hwq]; exact HO.out
    have HBq : Hid (Below B w wq) := by show Below B w wq; rw [hwq]; exact below_drewN (Below.refl _ _) _
    rw [← hwq]
    have c0q := HXq.out.c0
    have c1q := HXq.out.c1
    have hltq := HXq.out.lt
    clear hwq c0 c1 f0 f1
    go_wp2_with (at_builtin; refine wpList_append_lies _ rfl (.tmp 28) (.tmp 29) 22 rfl B 29 i0 (.int .u64 0) 1 8 Try.underlying22 hi hz0 hz1 hz2 rfl (by omega) (.slice ao n cp) n (wcs ws) rfl (HOq.out.alloc _) ⟨wq.heap.size, 0, none⟩ 1 1 [.int .u64 0] rfl rfl (cell_one_new _ _ _) (int_oneCell .u64 0) (by omega) (by unfold maxLen; omega) (by omega) (by simp; omega) (wq.heap.size + 1) (by simp) ?_)
    intro g cp' w2 hown2 hgrow2 hat hlt2
    have hgn : g ≠ nb := by
      rcases hat with h | h
      · exact HV.out g h
      · omega
    have hgn' : nb ≠ g := fun h => hgn h.symm
    have HX2 : Hid (Box w2 nb (.slice ao n cp) d) := by
      have h1 := hgrow2.block nb (by simp; omega) (fun h => HV.out nb h.symm rfl)
      have h2 := Below.heap_alloc wq (.cells #[.int .u64 0] 29) nb hltq
      exact (h1.trans h2).trans HXq.out
    have HO2 : Hid (w2.ownsRow B 29 1 (.slice (some ⟨g, 0, none⟩) (n + 1) cp') (n + 1) (wcs (ws ++ [0]))) := by show w2.ownsRow _ _ _ _ _ _; rw [← wcs_snoc]; exact hown2
    have HB2 : Hid (Below B w w2) := HBq.out.trans (((Below.refl B wq).alloc (by omega) _).grown hgrow2 (by simp; omega) (fun j hj => (HOq.out.lt j hj).1))
    have e0 := HX2.out.c0
    have e1 := HX2.out.c1
    have g0 := HX2.out.f 0
    have g1 := HX2.out.f 1
    have hc : w2.cell? ⟨g, d / 64, none⟩ = some (.int .u64 0) := by
      rw [HO2.out.cellAt _ (by omega), wcs_at _ _ (by rw [List.length_append, ← Hn.out]; simp; omega)]
      simp [List.getD, Hd.out, Hn.out]
    have hf : w2.frozen? ⟨g, d / 64, none⟩ = false := HO2.out.frozenAt _
    clear hown2 hgrow2 hat HXq HOq c0q c1q
    go_wp2
    go_end0
    rw [andNot_set 0 (d % 64) (by omega) (by omega) (Nat.mod_lt _ (by omega))]
    obtain ⟨k1, k2, k3, k4⟩ := push_fin (w := w2.setCell ⟨nb, 0, none⟩ (.slice (some ⟨g, 0, none⟩) (n + 1) cp')) HX2.out.set0 hB hgn (ownsRow_setCell_other HO2.out (a := ⟨nb, 0, none⟩) (fun h => hgn (by simpa [Value.ownBlock] using h)) _) HP.out
    exact ⟨rfl, ⟨g, n + 1, cp', hgn, k1, k2, k3⟩, (HB2.out.setCell hB _).trans k4⟩
  · go_enter Try.func8, Try.ntmps8
    go_wp2
    go_quiet (fail)
    obtain ⟨wq, hwq⟩ : ∃ wq, wq = w.drewN nq := ⟨_, rfl⟩
    have HXq : Hid (Box wq nb (.slice ao n cp) d) := by show Box _ _ _ _; rw [hwq]; exact HX.out
    have HOq : Hid (wq.ownsRow B 29 1 (.slice ao n cp) n (wcs ws)) := by show wq.ownsRow _ _ _ _ _ _; rw [hwq]; exact HO.out
    have HBq : Hid (Below B w wq) := by show Below B w wq; rw [hwq]; exact below_drewN (Below.refl _ _) _
    rw [← hwq]
    have c0q := HXq.out.c0
    have c1q := HXq.out.c1
    have hltq := HXq.out.lt
    clear hwq c0 c1 f0 f1
    go_wp2_with (at_builtin; refine wpList_append_lies _ rfl (.tmp 28) (.tmp 29) 22 rfl B 29 i0 (.int .u64 0) 1 8 Try.underlying22 hi hz0 hz1 hz2 rfl (by omega) (.slice ao n cp) n (wcs ws) rfl (HOq.out.alloc _) ⟨wq.heap.size, 0, none⟩ 1 1 [.int .u64 0] rfl rfl (cell_one_new _ _ _) (int_oneCell .u64 0) (by omega) (by unfold maxLen; omega) (by omega) (by simp; omega) (wq.heap.size + 1) (by simp) ?_)
    intro g cp' w2 hown2 hgrow2 hat hlt2
    have hgn : g ≠ nb := by
      rcases hat with h | h
      · exact HV.out g h
      · omega
    have hgn' : nb ≠ g := fun h => hgn h.symm
    have HX2 : Hid (Box w2 nb (.slice ao n cp) d) := by
      have h1 := hgrow2.block nb (by simp; omega) (fun h => HV.out nb h.symm rfl)
      have h2 := Below.heap_alloc wq (.cells #[.int .u64 0] 29) nb hltq
      exact (h1.trans h2).trans HXq.out
    have HO2 : Hid (w2.ownsRow B 29 1 (.slice (some ⟨g, 0, none⟩) (n + 1) cp') (n + 1) (wcs (ws ++ [0]))) := by show w2.ownsRow _ _ _ _ _ _; rw [← wcs_snoc]; exact hown2
    have HB2 : Hid (Below B w w2) := HBq.out.trans (((Below.refl B wq).alloc (by omega) _).grown hgrow2 (by simp; omega) (fun j hj => (HOq.out.lt j hj).1))
    have e0 := HX2.out.c0
    have e1 := HX2.out.c1
    have g0 := HX2.out.f 0
    have g1 := HX2.out.f 1
    have hc : w2.cell? ⟨g, d / 64, none⟩ = some (.int .u64 0) := by
      rw [HO2.out.cellAt _ (by omega), wcs_at _ _ (by rw [List.length_append, ← Hn.out]; simp; omega)]
      simp [List.getD, Hd.out, Hn.out]
    have hf : w2.frozen? ⟨g, d / 64, none⟩ = false := HO2.out.frozenAt _
    clear hown2 hgrow2 hat HXq HOq c0q c1q
    go_wp2
    go_end0
    rw [or_set 0 (d % 64) (by omega) (by omega) (Nat.mod_lt _ (by omega))]
    obtain ⟨k1, k2, k3, k4⟩ := push_fin (w := w2.setCell ⟨nb, 0, none⟩ (.slice (some ⟨g, 0, none⟩) (n + 1) cp')) HX2.out.set0 hB hgn (ownsRow_setCell_other HO2.out (a := ⟨nb, 0, none⟩) (fun h => hgn (by simpa [Value.ownBlock] using h)) _) HP.out
    exact ⟨rfl, ⟨g, n + 1, cp', hgn, k1, k2, k3⟩, (HB2.out.setCell hB _).trans k4⟩

/-- What a push hands back: the row behind it, owned; one level more. -/
def Pushed (B : Nat) (ws : List Int) (d : Nat) (b : Bool) (w : World) (e : Ending) (w' : World) : Prop :=
  ∃ g' n' cp', e = .returned (.tuple #[.slice (some ⟨g', 0, none⟩) n' cp', .int .i64 ((d : Int) + 1)]) ∧ n' = (pushW ws d b).length ∧
    w'.ownsRow B 29 1 (.slice (some ⟨g', 0, none⟩) n' cp') n' (wcs (pushW ws d b)) ∧ Below B w w'

set_option maxHeartbeats 2000000 in
theorem zzpush_any (B n cp d : Nat) (ao : Option Addr) (ws : List Int) (b : Bool) (w : World) (hBw : B ≤ w.heap.size) (hn : n = ws.length) (hw : Words ws) (hd : d / 64 ≤ n) (hdm : d ≤ 100000000)
    (hown : w.ownsRow B 29 1 (.slice ao n cp) n (wcs ws)) :
    Calls Try.prog 6 #[.slice ao n cp, .int .i64 d, .bool b] w fun e w' => Pushed B ws d b w e w' := by
  have hpush : Calls Try.prog 8 #[.pointer (some ⟨w.heap.size, 0, none⟩), .bool b] (w.alloc (.cells #[.slice ao n cp, .int .i64 d] 32)) fun e w' => e = .returned (.tuple #[]) ∧
      (∃ g' n' cp', g' ≠ w.heap.size ∧ Box w' w.heap.size (.slice (some ⟨g', 0, none⟩) n' cp') ((d : Int) + 1) ∧ n' = (pushW ws d b).length ∧ w'.ownsRow B 29 1 (.slice (some ⟨g', 0, none⟩) n' cp') n' (wcs (pushW ws d b))) ∧ Below B (w.alloc (.cells #[.slice ao n cp, .int .i64 d] 32)) w' := by
    have hbx : Box (w.alloc (.cells #[.slice ao n cp, .int .i64 d] 32)) w.heap.size (.slice ao n cp) d := heap_alloc_new w _
    have hvn : ∀ j, (Value.slice ao n cp).ownBlock = some j → j ≠ w.heap.size := fun j hj => by have := (hown.lt j hj).2; omega
    by_cases h : d / 64 = n
    · exact push_out B w.heap.size n cp d ao ws b _ hbx hBw hvn hn h hdm (hown.alloc _)
    · obtain ⟨g, cap, hv, _, _⟩ := hown.form (by omega)
      have hao : ao = some ⟨g, 0, none⟩ ∧ cp = cap := by simpa using hv
      obtain ⟨rfl, rfl⟩ := hao
      exact push_in B w.heap.size g n cp d ws b _ hbx hBw (hvn g rfl) hn hw (by omega) hdm (hown.alloc _)
  have HPU : Hid (Calls Try.prog 8 #[.pointer (some ⟨w.heap.size, 0, none⟩), .bool b] (w.alloc (.cells #[.slice ao n cp, .int .i64 d] 32)) fun e w' => e = .returned (.tuple #[]) ∧
      (∃ g' n' cp', g' ≠ w.heap.size ∧ Box w' w.heap.size (.slice (some ⟨g', 0, none⟩) n' cp') ((d : Int) + 1) ∧ n' = (pushW ws d b).length ∧ w'.ownsRow B 29 1 (.slice (some ⟨g', 0, none⟩) n' cp') n' (wcs (pushW ws d b))) ∧ Below B (w.alloc (.cells #[.slice ao n cp, .int .i64 d] 32)) w') := hpush
  clear hpush hown hn hw
  go_enter Try.func6, Try.ntmps6
  go_wp2_with fail
  refine HPU.out.mono ?_
  rintro e w2 ⟨rfl, ⟨g', n', cp', hgn, hbx, hn', hown'⟩, hbel⟩
  have c0 := hbx.c0
  have c1 := hbx.c1
  have HO : Hid (w2.ownsRow B 29 1 (.slice (some ⟨g', 0, none⟩) n' cp') n' (wcs (pushW ws d b))) := hown'
  have Hn : Hid (n' = (pushW ws d b).length) := hn'
  have HB : Hid (Below B w w2) := ((Below.refl B w).alloc hBw _).trans hbel
  clear hbx hown' hn' hbel HPU
  go_wp2
  go_quiet (fail)
  go_wp2
  go_ret2
  exact ⟨g', n', cp', rfl, Hn.out, HO.out, below_drewN HB.out _⟩

end Go.Proofs.Qxb6617535a
