/-
  Seat b6617513a. The contract of 'zzParseInsert' (function 7): at a text of the shape it reads, it hands back the table, the columns and the numbers.
-/
import Derived.Test.Qxb6617513aSmall
import Derived.Test.Qxb6617513aRel
import Derived.Deep.AppendLies
namespace Go.Proofs.Qxb6617513a
open Go.RowKit

theorem Try.info9 : (Try.prog.info? 9).map (fun i => (i.zero, i.size, i.bytes)) = some (some (.string ByteArray.empty), 1, 16) := by kernel_rfl
theorem Try.info3 : (Try.prog.info? 3).map (fun i => (i.zero, i.size, i.bytes)) = some (some (.int .i64 0), 1, 8) := by kernel_rfl

/-- What the parser hands back: the table, the columns and the numbers, the two slices in new memory. -/
def Parsed (w : World) (tbl : List UInt8) (cols : List (List UInt8)) (nums : List Int) (e : Ending) (w' : World) : Prop :=
  ∃ gc cc gn cn, e = .returned (.tuple #[.string (bs tbl), .slice (some ⟨gc, 0, none⟩) cols.length cc, .slice (some ⟨gn, 0, none⟩) nums.length cn, .bool true]) ∧
    (∀ j, j < cols.length → w'.cell? ⟨gc, j, none⟩ = some (.string (bs (cols.getD j [])))) ∧
    (∀ j, j < nums.length → w'.cell? ⟨gn, j, none⟩ = some (.int .i64 (nums.getD j 0))) ∧
    gc < w'.heap.size ∧ gn < w'.heap.size ∧ Below w.heap.size w w'

/-- Texts as cells. -/
def scs (l : List ByteArray) : List Value := l.map Value.string
theorem scs_snoc (l : List ByteArray) (y : ByteArray) : scs l ++ [.string y] = scs (l ++ [y]) := by simp [scs]
theorem string_oneCell (y : ByteArray) : ∀ u ∈ [Value.string y], u.oneCell' = true := by
  intro u hu
  simp at hu
  subst hu
  rfl
theorem int_oneCell (k : IntKind) (n : Int) : ∀ u ∈ [Value.int k n], u.oneCell' = true := by
  intro u hu
  simp at hu
  subst hu
  rfl
theorem isEmpty_of {cs : List ByteArray} {n : Nat} (h : n = cs.length) : cs.isEmpty = decide (n = 0) := by
  cases cs with
  | nil => simp at h; simp [h]
  | cons a b => simp at h; simp [h]

theorem cells_cols {w : World} {B g cap : Nat} {cs : List ByteArray} {cols : List (List UInt8)} (h : w.ownsRow B 9 1 (.slice (some ⟨g, 0, none⟩) cs.length cap) cs.length (scs cs)) (hp : pl cs = cols) :
    ∀ j, j < cols.length → w.cell? ⟨g, j, none⟩ = some (.string (bs (cols.getD j []))) := by
  intro j hj
  have hjc : j < cs.length := by rw [← hp] at hj; simpa [pl] using hj
  have h1 := h.cells (g := g) rfl j (.string cs[j]) (by simp [scs, hjc])
  rw [Addr.add_lit, Nat.zero_add] at h1
  rw [h1]
  have : cols.getD j [] = cs[j].data.toList := by rw [← hp]; simp [pl, List.getD, hjc]
  rw [this, bs_data]
theorem cells_nums {w : World} {B g cap : Nat} {ns : List Int} (h : w.ownsRow B 3 1 (.slice (some ⟨g, 0, none⟩) ns.length cap) ns.length (ns.map (Value.int .i64))) :
    ∀ j, j < ns.length → w.cell? ⟨g, j, none⟩ = some (.int .i64 (ns.getD j 0)) := by
  intro j hj
  have h1 := h.cells (g := g) rfl j (.int .i64 ns[j]) (by simp [hj])
  rw [Addr.add_lit, Nat.zero_add] at h1
  rw [h1]
  simp [List.getD, hj]

theorem ext_drop {s : ByteArray} {a X : List UInt8} {n : Nat} (h : s.data.toList = a ++ X) (hn : a.length = n) : (s.extract n s.size).data.toList = X := by
  rw [extract_list, h, ← hn, List.drop_left, List.take_of_length_le]
  rw [size_of h, List.length_append]
  omega
theorem ext_take {s : ByteArray} {a X : List UInt8} {n : Nat} (h : s.data.toList = a ++ X) (hn : a.length = n) : (s.extract 0 n).data.toList = a := by
  rw [extract_list, h, ← hn, List.drop_zero, Nat.sub_zero, List.take_left]

theorem byte_left {s : ByteArray} {a X : List UInt8} (h : s.data.toList = a ++ X) (k : Nat) (hk : k < s.size) (hka : k < a.length) : s[k] ∈ a := by
  have := at_of h k hk
  rw [List.getElem?_append_left hka] at this
  exact List.mem_of_getElem? this
theorem byte_right {s : ByteArray} {a X : List UInt8} (h : s.data.toList = a ++ X) (k : Nat) (hk : k < s.size) (hka : a.length ≤ k) : X[k - a.length]? = some s[k] := by
  have := at_of h k hk
  rw [List.getElem?_append_right hka] at this
  exact this

set_option maxHeartbeats 2000000 in
set_option maxRecDepth 100000 in
theorem parse_any (s : ByteArray) (tbl col vals : List UInt8) (cols : List (List UInt8)) (nums : List Int) (w : World)
    (hs : s.data.toList = headB ++ (tbl ++ (32 :: 40 :: (col ++ (midB ++ (vals ++ [41])))))) (hsz : s.size ≤ 1000000)
    (ht : ∀ b ∈ tbl, b.toNat ≠ 40) (hcl : ∀ b ∈ col, b.toNat ≠ 41) (hC : colsOf true [] col = some cols) (hN : numsOf none vals = some nums) (hn0 : nums ≠ []) (hc0 : cols ≠ []) :
    Calls Try.prog 7 #[.string s] w fun e w' => Parsed w tbl cols nums e w' := by
  obtain ⟨i9, hi9, hz90, hz91, hz92⟩ := info_parts Try.info9
  obtain ⟨i3, hi3, hz30, hz31, hz32⟩ := info_parts Try.info3
  have HS : Hid (s.data.toList = headB ++ (tbl ++ (32 :: 40 :: (col ++ (midB ++ (vals ++ [41])))))) := hs
  have HT : Hid (∀ b ∈ tbl, b.toNat ≠ 40) := ht
  have HCL : Hid (∀ b ∈ col, b.toNat ≠ 41) := hcl
  have HC : Hid (colsOf true [] col = some cols) := hC
  have HN : Hid (numsOf none vals = some nums) := hN
  have HN0 : Hid (nums ≠ []) := hn0
  have HC0 : Hid (cols ≠ []) := hc0
  have hsl : 12 ≤ s.size := by rw [size_of hs]; simp [headB]
  have hp1 := hasPrefix_yes s ⟨#[73, 78, 83, 69, 82, 84, 32, 73, 78, 84, 79, 32]⟩ w (by omega) hsl (by
    rw [bs_eq (extract_list s 0 _), hs]
    rfl)
  have HP1 : Hid (Calls Try.prog 10 #[.string s, .string ⟨#[73, 78, 83, 69, 82, 84, 32, 73, 78, 84, 79, 32]⟩] w fun e w' => e = .returned (.bool true) ∧ w' = w) := hp1
  clear hs ht hcl hC hN hn0 hc0 hp1
  go_enter Try.func7, Try.ntmps7
  go_wp2_with fail
  refine HP1.out.mono ?_
  rintro e w' ⟨rfl, rfl⟩
  clear HP1
  go_wp2
  generalize hr1 : s.extract 12 s.size = r1
  have hR1 : r1.data.toList = tbl ++ (32 :: 40 :: (col ++ (midB ++ (vals ++ [41])))) := by
    rw [← hr1]; exact ext_drop HS.out rfl
  have hr1s : r1.size + 12 = s.size := by
    have h1 := size_of hR1
    have h2 := size_of HS.out
    rw [List.length_append, ← h1] at h2
    rw [h2]; simp [headB]; omega
  obtain ⟨o, ho⟩ : ∃ o, o = tbl.length + 1 := ⟨_, rfl⟩
  have ho1 : 1 ≤ o := by omega
  have hol : o + 1 ≤ r1.size := by rw [size_of hR1, List.length_append, List.length_cons, List.length_cons]; omega
  have hrs : r1.size ≤ 1000000 := by omega
  have B1 : Hid (∀ k (h : k < r1.size), k < o → (((r1[k]'h).toNat : Int) == 40) = false) := by
    intro k h hk
    rw [beq_eq_false_iff_ne]
    by_cases e : k < tbl.length
    · have := HT.out _ (byte_left hR1 k h e)
      omega
    · have h2 := byte_right hR1 k h (by omega)
      rw [show k - tbl.length = 0 from by omega] at h2
      simp at h2
      rw [← h2]
      decide
  have B2 : Hid (∀ h : o < r1.size, (((r1[o]'h).toNat : Int) == 40) = true) := by
    intro h
    have h2 := byte_right hR1 o h (by omega)
    rw [show o - tbl.length = 1 from by omega] at h2
    simp at h2
    rw [← h2]
    decide
  have B3 : Hid (∀ h : o - 1 < r1.size, (((r1[o - 1]'h).toNat : Int) != 32) = false) := by
    intro h
    have h2 := byte_right hR1 (o - 1) h (by omega)
    rw [show o - 1 - tbl.length = 0 from by omega] at h2
    simp at h2
    rw [← h2]
    decide
  have HR1 : Hid (r1.data.toList = tbl ++ (32 :: 40 :: (col ++ (midB ++ (vals ++ [41]))))) := hR1
  have HO : Hid (o = tbl.length + 1) := ho
  clear hr1 hR1 ho HS HT hr1s
  go_loop [7, 8] (fun op i => ∃ k : Nat, k ≤ o ∧ i = .int .i64 k ∧ op = .int .i64 (-1)) (fun _ i => r1.size - (intOf i).toNat)
  case atStart => exact ⟨0, Nat.zero_le _, rfl, rfl⟩
  case round =>
    obtain ⟨k, hk, rfl, rfl⟩ := hrel
    by_cases hlt : k < o
    · have hkr : k < r1.size := by omega
      have hb := B1.out k hkr hlt
      go_wp2
      go_round
      case rel => exact ⟨k + 1, by omega, by go_num, rfl⟩
      case measure => simp [intOf]; omega
    · have hko : o = k := by omega
      subst hko
      have hkr : o < r1.size := by omega
      have hkr1 : o - 1 < r1.size := by omega
      have hb := B2.out hkr
      have hb3 := B3.out hkr1
      clear B1 B2 B3 hlt hk
      obtain ⟨tb, htb⟩ : ∃ tb, r1.extract 0 (o - 1) = tb := ⟨_, rfl⟩
      obtain ⟨r2, hr2⟩ : ∃ r2, r1.extract (o + 1) r1.size = r2 := ⟨_, rfl⟩
      go_wp2
      have HTB : Hid (tb = bs tbl) := by
        show tb = bs tbl
        rw [← htb]
        exact bs_eq (ext_take HR1.out (by have := HO.out; omega))
      have hR2 : r2.data.toList = col ++ (midB ++ (vals ++ [41])) := by
        rw [← hr2]
        refine ext_drop (a := tbl ++ [32, 40]) ?_ (by rw [List.length_append, HO.out]; rfl)
        rw [HR1.out]; simp
      have hr2s : r2.size ≤ 1000000 := by
        have h1 := size_of hR2
        have h2 := size_of HR1.out
        simp only [List.length_append, List.length_cons] at h1 h2
        omega
      obtain ⟨q, hq⟩ : ∃ q, q = col.length := ⟨_, rfl⟩
      have hql : q + 11 ≤ r2.size := by
        rw [size_of hR2, List.length_append, List.length_append, List.length_append, ← hq]
        simp [midB]; omega
      have D1 : Hid (∀ k (h : k < r2.size), k < q → (((r2[k]'h).toNat : Int) == 41) = false) := by
        intro k h hk
        rw [beq_eq_false_iff_ne]
        have := HCL.out _ (byte_left hR2 k h (by omega))
        omega
      have D2 : Hid (∀ h : q < r2.size, (((r2[q]'h).toNat : Int) == 41) = true) := by
        intro h
        have h2 := byte_right hR2 q h (by omega)
        rw [show q - col.length = 0 from by omega] at h2
        simp [midB] at h2
        rw [← h2]
        decide
      have HR2 : Hid (r2.data.toList = col ++ (midB ++ (vals ++ [41]))) := hR2
      have HQ : Hid (q = col.length) := hq
      clear htb hr2 hR2 hq HR1 HO HCL hb hb3
      go_loop [10, 11] (fun op i => ∃ k : Nat, k ≤ q ∧ i = .int .i64 k ∧ op = .int .i64 (-1)) (fun _ i => r2.size - (intOf i).toNat)
      case atStart => exact ⟨0, Nat.zero_le _, rfl, rfl⟩
      case round =>
        obtain ⟨k, hk, rfl, rfl⟩ := hrel
        by_cases hlt : k < q
        · have hkr : k < r2.size := by omega
          have hb := D1.out k hkr hlt
          go_wp2
          go_round
          case rel => exact ⟨k + 1, by omega, by go_num, rfl⟩
          case measure => simp [intOf]; omega
        · have hkq : q = k := by omega
          subst hkq
          have hkr : q < r2.size := by omega
          have hb := D2.out hkr
          clear D1 D2 hlt hk
          obtain ⟨ct, hct⟩ : ∃ ct, r2.extract 0 q = ct := ⟨_, rfl⟩
          obtain ⟨r3, hr3⟩ : ∃ r3, r2.extract q r2.size = r3 := ⟨_, rfl⟩
          have HCT : Hid (ct.data.toList = col) := by
            show ct.data.toList = col
            rw [← hct]
            exact ext_take HR2.out HQ.out.symm
          have hR3 : r3.data.toList = midB ++ (vals ++ [41]) := by
            rw [← hr3]
            exact ext_drop HR2.out HQ.out.symm
          have hr3s : r3.size ≤ 1000000 := by
            have h1 := size_of hR3
            have h2 := size_of HR2.out
            simp only [List.length_append] at h1 h2
            omega
          have hr3l : 11 ≤ r3.size := by rw [size_of hR3]; simp [midB]
          have hp2 := hasPrefix_yes r3 ⟨#[41, 32, 86, 65, 76, 85, 69, 83, 32, 40]⟩ w' (by omega) (by show 10 ≤ r3.size; omega) (by
            rw [bs_eq (extract_list r3 0 _), hR3]
            rfl)
          have HP2 : Hid (Calls Try.prog 10 #[.string r3, .string ⟨#[41, 32, 86, 65, 76, 85, 69, 83, 32, 40]⟩] w' fun e w'' => e = .returned (.bool true) ∧ w'' = w') := hp2
          obtain ⟨v1, hv1⟩ : ∃ v1, r3.extract 10 r3.size = v1 := ⟨_, rfl⟩
          have hV1 : v1.data.toList = vals ++ [41] := by
            rw [← hv1]
            exact ext_drop hR3 rfl
          have hv1l : 1 ≤ v1.size := by rw [size_of hV1]; simp
          have hv1s : v1.size ≤ 1000000 := by
            have h1 := size_of hR3
            have h2 := size_of hV1
            simp only [List.length_append] at h1 h2
            omega
          have hv1e : ((v1.size : Int) == 0) = false := by rw [beq_eq_false_iff_ne]; omega
          have hv1i : v1.size - 1 < v1.size := by omega
          have hv1b : (((v1[v1.size - 1]'hv1i).toNat : Int) != 41) = false := by
            have hl : v1.size - 1 = vals.length := by rw [size_of hV1]; simp
            have h2 := byte_right hV1 (v1.size - 1) hv1i (by omega)
            rw [show v1.size - 1 - vals.length = 0 from by omega] at h2
            simp at h2
            rw [← h2]
            decide
          obtain ⟨v2, hv2⟩ : ∃ v2, v1.extract 0 (v1.size - 1) = v2 := ⟨_, rfl⟩
          have HV2 : Hid (v2.data.toList = vals) := by
            show v2.data.toList = vals
            rw [← hv2]
            exact ext_take hV1 (by rw [size_of hV1]; simp)
          have hv2s : v2.size ≤ 1000000 := by
            have h1 := size_of hV1
            have h2 := size_of HV2.out
            simp only [List.length_append] at h1 h2
            omega
          have hcts : ct.size ≤ 1000000 := by
            have h1 := size_of HCT.out
            have h2 := size_of HR2.out
            simp only [List.length_append] at h1 h2
            omega
          clear hp2 hR3 hV1 HR2 HQ
          go_wp2_with fail
          refine HP2.out.mono ?_
          rintro e w'' ⟨rfl, rfl⟩
          clear HP2
          go_wp2
          go_loopw [14, 15, 16] (fun v st i wr => ∃ (k a n cp : Nat) (ao : Option Addr) (cs : List ByteArray), i = .int .i64 k ∧ st = .int .i64 a ∧ v = .slice ao n cp ∧ n ≤ k ∧ k ≤ ct.size + 1 ∧ Hid (n = cs.length) ∧ Hid (ColRel col cols cs a k) ∧ Hid (wr.ownsRow w''.heap.size 9 1 (.slice ao n cp) n (scs cs)) ∧ Hid (Below w''.heap.size w'' wr)) (fun _ _ i _ => ct.size + 1 - (intOf i).toNat)
          case atStart => exact ⟨0, 0, 0, 0, none, [], rfl, rfl, rfl, Nat.le_refl _, Nat.zero_le _, rfl, col_start HC.out, World.ownsRow_nil _ _ _ _, Below.refl _ _⟩
          case round =>
            obtain ⟨k, a, n, cp, ao, cs, rfl, rfl, rfl, hnk, hk, Hn, HR, Ho, Hb⟩ := hrel
            have hcl : ct.size = col.length := size_of HCT.out
            have Hcl : Hid (ct.size = col.length) := hcl
            clear hcl
            by_cases hke : k ≤ ct.size
            · have hak := col_le HR.out (by rw [← Hcl.out]; exact hke)
              have hwsz := Hb.out.size
              by_cases hlt : k < ct.size
              · have hne : ((k : Int) == (ct.size : Int)) = false := by rw [beq_eq_false_iff_ne]; omega
                have hkc : k < col.length := by rw [← Hcl.out]; exact hlt
                have hbe : col[k] = ct[k] := by
                  have := at_of HCT.out k hlt
                  rw [List.getElem?_eq_getElem hkc] at this
                  exact Option.some.inj this
                by_cases hb : ct[k].toNat = 44
                · have hbb : ((ct[k].toNat : Int) == 44) = true := by simp; omega
                  obtain ⟨p, hp, hnext⟩ := col_hit HR.out (by omega) (fun _ => by rw [hbe]; exact hb)
                  clear hb hbe
                  by_cases hn0 : n = 0
                  · clear HR
                    have hpi := piece_first _ _ (by have := hp; rw [isEmpty_of Hn.out] at this; simpa [hn0] using this)
                    obtain ⟨x, hx⟩ : ∃ x, ct.extract a k = x := ⟨_, rfl⟩
                    have HX : Hid (x.data.toList = p) := by show x.data.toList = p; rw [← hx, extract_list, HCT.out]; exact hpi
                    have HR' : Hid (ColRel col cols (cs ++ [x]) (k + 1) (k + 1)) := hnext x HX.out
                    have hn00 : ¬ (0 : Int) < (n : Int) := by omega
                    clear hp hnext hpi hn0
                    go_wp2_with (at_builtin; refine wpList_append_lies _ rfl (.tmp 128) (.tmp 130) 25 rfl w''.heap.size 9 i9 (.string ByteArray.empty) 1 16 Try.underlying25 hi9 hz90 hz91 hz92 rfl (by omega) (.slice ao n cp) n (scs cs) rfl (Ho.out.alloc _) ⟨wr.heap.size, 0, none⟩ 1 1 [.string x] rfl rfl (cell_one_new _ _ _) (string_oneCell x) (by omega) (by unfold maxLen; omega) (by omega) (by simp; omega) (wr.heap.size + 1) (by simp) ?_)
                    intro g cp' w4 hown4 hgrow4 _ _
                    have Ho4 : Hid (w4.ownsRow w''.heap.size 9 1 (.slice (some ⟨g, 0, none⟩) (n + 1) cp') (n + 1) (scs (cs ++ [x]))) := by
                      show w4.ownsRow _ _ _ _ _ _
                      rw [← scs_snoc]; exact hown4
                    have Hb4 : Hid (Below w''.heap.size w'' w4) := (Hb.out.alloc hwsz _).grown hgrow4 (by simp; omega) (fun j hj => (Ho.out.lt j hj).1)
                    have Hn4 : Hid (n + 1 = (cs ++ [x]).length) := by show n + 1 = _; rw [Hn.out]; simp
                    clear hown4 hgrow4 Ho
                    go_wp2
                    go_roundw
                    case rel => exact ⟨k + 1, k + 1, n + 1, cp', some ⟨g, 0, none⟩, cs ++ [x], by go_num, by go_num, rfl, by omega, by omega, Hn4, HR', Ho4, Hb4⟩
                    case measure => simp [intOf]; omega
                  · clear HR
                    obtain ⟨c, hc32, hcp⟩ := piece_next _ _ (by have := hp; rw [isEmpty_of Hn.out] at this; simpa [hn0] using this)
                    obtain ⟨x0, hx0⟩ : ∃ x0, ct.extract a k = x0 := ⟨_, rfl⟩
                    have hX0 : x0.data.toList = [c] ++ p := by rw [← hx0, extract_list, HCT.out]; exact hcp
                    have hx0s : x0.size = p.length + 1 := by rw [size_of hX0]; simp
                    have hx0i : 0 < x0.size := by omega
                    have hx0e : ((x0.size : Int) == 0) = false := by rw [beq_eq_false_iff_ne]; omega
                    have hx0b : (((x0[0]'hx0i).toNat : Int) != 32) = false := by
                      have h2 := at_of hX0 0 hx0i
                      simp at h2
                      rw [← h2]
                      simp; omega
                    have hx0m : x0.size ≤ 1000000 := by
                      have : x0.size ≤ ct.size := by rw [← hx0, ByteArray.size_extract]; omega
                      omega
                    obtain ⟨x, hx⟩ : ∃ x, x0.extract 1 x0.size = x := ⟨_, rfl⟩
                    have HX : Hid (x.data.toList = p) := by show x.data.toList = p; rw [← hx]; exact ext_drop hX0 rfl
                    have HR' : Hid (ColRel col cols (cs ++ [x]) (k + 1) (k + 1)) := hnext x HX.out
                    have hn00 : (0 : Int) < (n : Int) := by omega
                    have hx0p : (1 : Int) ≤ (x0.size : Int) := by omega
                    clear hp hnext hcp hX0 hx0s hc32
                    go_wp2_with (at_builtin; refine wpList_append_lies _ rfl (.tmp 128) (.tmp 130) 25 rfl w''.heap.size 9 i9 (.string ByteArray.empty) 1 16 Try.underlying25 hi9 hz90 hz91 hz92 rfl (by omega) (.slice ao n cp) n (scs cs) rfl (Ho.out.alloc _) ⟨wr.heap.size, 0, none⟩ 1 1 [.string x] rfl rfl (cell_one_new _ _ _) (string_oneCell x) (by omega) (by unfold maxLen; omega) (by omega) (by simp; omega) (wr.heap.size + 1) (by simp) ?_)
                    intro g cp' w4 hown4 hgrow4 _ _
                    have Ho4 : Hid (w4.ownsRow w''.heap.size 9 1 (.slice (some ⟨g, 0, none⟩) (n + 1) cp') (n + 1) (scs (cs ++ [x]))) := by
                      show w4.ownsRow _ _ _ _ _ _
                      rw [← scs_snoc]; exact hown4
                    have Hb4 : Hid (Below w''.heap.size w'' w4) := (Hb.out.alloc hwsz _).grown hgrow4 (by simp; omega) (fun j hj => (Ho.out.lt j hj).1)
                    have Hn4 : Hid (n + 1 = (cs ++ [x]).length) := by show n + 1 = _; rw [Hn.out]; simp
                    clear hown4 hgrow4 Ho
                    go_wp2
                    go_roundw
                    case rel => exact ⟨k + 1, k + 1, n + 1, cp', some ⟨g, 0, none⟩, cs ++ [x], by go_num, by go_num, rfl, by omega, by omega, Hn4, HR', Ho4, Hb4⟩
                    case measure => simp [intOf]; omega
                · have hbb : ((ct[k].toNat : Int) == 44) = false := by rw [beq_eq_false_iff_ne]; omega
                  have HR' : Hid (ColRel col cols cs a (k + 1)) := col_miss HR.out hkc (by rw [hbe]; exact hb)
                  clear hb hbe HR
                  go_wp2
                  go_roundw
                  case rel => exact ⟨k + 1, a, n, cp, ao, cs, by go_num, rfl, rfl, by omega, by omega, Hn, HR', Ho, Hb⟩
                  case measure => simp [intOf]; omega
              · have hne : ((k : Int) == (ct.size : Int)) = true := by rw [beq_iff_eq]; omega
                obtain ⟨p, hp, hnext⟩ := col_hit HR.out (by have := Hcl.out; omega) (fun h => by have := Hcl.out; omega)
                by_cases hn0 : n = 0
                · clear HR
                  have hpi := piece_first _ _ (by have := hp; rw [isEmpty_of Hn.out] at this; simpa [hn0] using this)
                  obtain ⟨x, hx⟩ : ∃ x, ct.extract a k = x := ⟨_, rfl⟩
                  have HX : Hid (x.data.toList = p) := by show x.data.toList = p; rw [← hx, extract_list, HCT.out]; exact hpi
                  have HR' : Hid (ColRel col cols (cs ++ [x]) (k + 1) (k + 1)) := hnext x HX.out
                  have hn00 : ¬ (0 : Int) < (n : Int) := by omega
                  clear hp hnext hpi hn0
                  go_wp2_with (at_builtin; refine wpList_append_lies _ rfl (.tmp 128) (.tmp 130) 25 rfl w''.heap.size 9 i9 (.string ByteArray.empty) 1 16 Try.underlying25 hi9 hz90 hz91 hz92 rfl (by omega) (.slice ao n cp) n (scs cs) rfl (Ho.out.alloc _) ⟨wr.heap.size, 0, none⟩ 1 1 [.string x] rfl rfl (cell_one_new _ _ _) (string_oneCell x) (by omega) (by unfold maxLen; omega) (by omega) (by simp; omega) (wr.heap.size + 1) (by simp) ?_)
                  intro g cp' w4 hown4 hgrow4 _ _
                  have Ho4 : Hid (w4.ownsRow w''.heap.size 9 1 (.slice (some ⟨g, 0, none⟩) (n + 1) cp') (n + 1) (scs (cs ++ [x]))) := by
                    show w4.ownsRow _ _ _ _ _ _
                    rw [← scs_snoc]; exact hown4
                  have Hb4 : Hid (Below w''.heap.size w'' w4) := (Hb.out.alloc hwsz _).grown hgrow4 (by simp; omega) (fun j hj => (Ho.out.lt j hj).1)
                  have Hn4 : Hid (n + 1 = (cs ++ [x]).length) := by show n + 1 = _; rw [Hn.out]; simp
                  clear hown4 hgrow4 Ho
                  go_wp2
                  go_roundw
                  case rel => exact ⟨k + 1, k + 1, n + 1, cp', some ⟨g, 0, none⟩, cs ++ [x], by go_num, by go_num, rfl, by omega, by omega, Hn4, HR', Ho4, Hb4⟩
                  case measure => simp [intOf]; omega
                · clear HR
                  obtain ⟨c, hc32, hcp⟩ := piece_next _ _ (by have := hp; rw [isEmpty_of Hn.out] at this; simpa [hn0] using this)
                  obtain ⟨x0, hx0⟩ : ∃ x0, ct.extract a k = x0 := ⟨_, rfl⟩
                  have hX0 : x0.data.toList = [c] ++ p := by rw [← hx0, extract_list, HCT.out]; exact hcp
                  have hx0s : x0.size = p.length + 1 := by rw [size_of hX0]; simp
                  have hx0i : 0 < x0.size := by omega
                  have hx0e : ((x0.size : Int) == 0) = false := by rw [beq_eq_false_iff_ne]; omega
                  have hx0b : (((x0[0]'hx0i).toNat : Int) != 32) = false := by
                    have h2 := at_of hX0 0 hx0i
                    simp at h2
                    rw [← h2]
                    simp; omega
                  have hx0m : x0.size ≤ 1000000 := by
                    have : x0.size ≤ ct.size := by rw [← hx0, ByteArray.size_extract]; omega
                    omega
                  obtain ⟨x, hx⟩ : ∃ x, x0.extract 1 x0.size = x := ⟨_, rfl⟩
                  have HX : Hid (x.data.toList = p) := by show x.data.toList = p; rw [← hx]; exact ext_drop hX0 rfl
                  have HR' : Hid (ColRel col cols (cs ++ [x]) (k + 1) (k + 1)) := hnext x HX.out
                  have hn00 : (0 : Int) < (n : Int) := by omega
                  have hx0p : (1 : Int) ≤ (x0.size : Int) := by omega
                  clear hp hnext hcp hX0 hx0s hc32
                  go_wp2_with (at_builtin; refine wpList_append_lies _ rfl (.tmp 128) (.tmp 130) 25 rfl w''.heap.size 9 i9 (.string ByteArray.empty) 1 16 Try.underlying25 hi9 hz90 hz91 hz92 rfl (by omega) (.slice ao n cp) n (scs cs) rfl (Ho.out.alloc _) ⟨wr.heap.size, 0, none⟩ 1 1 [.string x] rfl rfl (cell_one_new _ _ _) (string_oneCell x) (by omega) (by unfold maxLen; omega) (by omega) (by simp; omega) (wr.heap.size + 1) (by simp) ?_)
                  intro g cp' w4 hown4 hgrow4 _ _
                  have Ho4 : Hid (w4.ownsRow w''.heap.size 9 1 (.slice (some ⟨g, 0, none⟩) (n + 1) cp') (n + 1) (scs (cs ++ [x]))) := by
                    show w4.ownsRow _ _ _ _ _ _
                    rw [← scs_snoc]; exact hown4
                  have Hb4 : Hid (Below w''.heap.size w'' w4) := (Hb.out.alloc hwsz _).grown hgrow4 (by simp; omega) (fun j hj => (Ho.out.lt j hj).1)
                  have Hn4 : Hid (n + 1 = (cs ++ [x]).length) := by show n + 1 = _; rw [Hn.out]; simp
                  clear hown4 hgrow4 Ho
                  go_wp2
                  go_roundw
                  case rel => exact ⟨k + 1, k + 1, n + 1, cp', some ⟨g, 0, none⟩, cs ++ [x], by go_num, by go_num, rfl, by omega, by omega, Hn4, HR', Ho4, Hb4⟩
                  case measure => simp [intOf]; omega
            · have hpl := col_done HR.out (by have := Hcl.out; omega)
              have hnl : n = cols.length := by rw [Hn.out, ← hpl]; simp [pl]
              have hn1 : 0 < n := by
                have := List.length_pos_iff.2 HC0.out
                omega
              obtain ⟨gc, cc, hv, _, hgc⟩ := Ho.out.form hn1
              have hao : ao = some ⟨gc, 0, none⟩ ∧ cp = cc := by simpa using hv
              obtain ⟨rfl, rfl⟩ := hao
              have hnc := Hn.out
              have HCC : Hid (∀ j, j < cols.length → wr.cell? ⟨gc, j, none⟩ = some (.string (bs (cols.getD j [])))) := by
                have h := Ho.out
                rw [hnc] at h
                exact cells_cols h hpl
              have Hnl : Hid (n = cols.length) := hnl
              clear hpl hnl hv hnc Ho HR Hn hk hnk
              obtain ⟨w3, hw3⟩ : ∃ w3, w3 = wr := ⟨_, rfl⟩
              subst hw3
              go_wp2
              go_loopw [18, 19] (fun v i wq => ∃ (k n2 cp2 : Nat) (ao2 : Option Addr) (ns : List Int), i = .int .i64 k ∧ v = .slice ao2 n2 cp2 ∧ n2 ≤ k ∧ k ≤ v2.size ∧ Hid (n2 = ns.length) ∧ Hid (NumRel vals nums ns k) ∧ Hid (wq.ownsRow w3.heap.size 3 1 (.slice ao2 n2 cp2) n2 (ns.map (Value.int .i64))) ∧ Hid (Below w3.heap.size w3 wq)) (fun _ i _ => v2.size - (intOf i).toNat)
              case atStart => exact ⟨0, 0, 0, none, [], rfl, rfl, Nat.le_refl _, Nat.zero_le _, rfl, num_start HN.out, World.ownsRow_nil _ _ _ _, Below.refl _ _⟩
              case round =>
                obtain ⟨k2, n2, cp2, ao2, ns, rfl, rfl, hnk2, hk2, Hn2, HR2, Ho2, Hb2⟩ := hrel
                have Hvl : Hid (v2.size = vals.length) := size_of HV2.out
                by_cases hlt : k2 < v2.size
                · have hkv : k2 < vals.length := by rw [← Hvl.out]; exact hlt
                  have hbe : vals[k2] = v2[k2] := by
                    have := at_of HV2.out k2 hlt
                    rw [List.getElem?_eq_getElem hkv] at this
                    exact Option.some.inj this
                  by_cases hb : v2[k2].toNat = 36
                  · have hbb : ((v2[k2].toNat : Int) != 36) = false := by rw [bne_eq_false_iff_eq]; omega
                    have HD : Hid (DigRel vals nums ns 0 (k2 + 1 - k2 - 1) (k2 + 1)) := by
                      show DigRel _ _ _ _ _ _
                      rw [show k2 + 1 - k2 - 1 = 0 from by omega]
                      exact num_dollar HR2.out hkv (by rw [hbe]; exact hb)
                    clear hb hbe HR2 hkv
                    go_wp2
                    go_loop [20, 21] (fun j n => ∃ (m : Nat) (x : Int), j = .int .i64 m ∧ n = .int .i64 x ∧ k2 + 1 ≤ m ∧ m ≤ v2.size ∧ 0 ≤ x ∧ x ≤ 1000000 ∧ Hid (DigRel vals nums ns x (m - k2 - 1) m)) (fun j _ => v2.size - (intOf j).toNat)
                    case atStart => exact ⟨k2 + 1, 0, by go_num, rfl, Nat.le_refl _, by omega, by omega, by omega, HD⟩
                    case round =>
                      obtain ⟨m, x, rfl, rfl, hm1, hm2, hx0, hx1, HD2⟩ := hrel
                      by_cases hdig : ∃ h : m < v2.size, 48 ≤ (v2[m]'h).toNat ∧ (v2[m]'h).toNat ≤ 57
                      · obtain ⟨hml, hd1, hd2⟩ := hdig
                        have hmv : m < vals.length := by rw [← Hvl.out]; exact hml
                        have hbe : vals[m] = v2[m] := by
                          have := at_of HV2.out m hml
                          rw [List.getElem?_eq_getElem hmv] at this
                          exact Option.some.inj this
                        obtain ⟨hk6, HD3⟩ := dig_digit HD2.out hmv (by rw [hbe]; exact hd1) (by rw [hbe]; exact hd2)
                        rw [hbe] at HD3
                        have hbd := dig_bound HD3
                        have HD4 : Hid (DigRel vals nums ns (x * 10 + ((v2[m].toNat : Int) - 48)) (m + 1 - k2 - 1) (m + 1)) := by
                          show DigRel _ _ _ _ _ _
                          rw [show m + 1 - k2 - 1 = m - k2 - 1 + 1 from by omega]
                          exact HD3
                        have hi1 : (48 : Int) ≤ (v2[m].toNat : Int) := by omega
                        have hi2 : (v2[m].toNat : Int) ≤ 57 := by omega
                        have hk6' : (m : Int) - (k2 : Int) ≤ 6 := by omega
                        clear HD3 hbe hmv HD2 hd1 hd2 hk6
                        go_wp2
                        go_round
                        case rel => exact ⟨m + 1, x * 10 + ((v2[m].toNat : Int) - 48), by go_num, by go_num, by omega, by omega, by omega, by omega, HD4⟩
                        case measure => simp [intOf]; omega
                      · obtain ⟨hk0, HR3⟩ := dig_end HD2.out (fun hj => by
                          have hml : m < v2.size := by rw [Hvl.out]; exact hj
                          have hbe : vals[m] = v2[m] := by
                            have := at_of HV2.out m hml
                            rw [List.getElem?_eq_getElem hj] at this
                            exact Option.some.inj this
                          rw [hbe]
                          exact fun h => hdig ⟨hml, h⟩)
                        have HR4 : Hid (NumRel vals nums (ns ++ [x]) m) := HR3
                        have hne : ((m : Int) == (k2 : Int) + 1) = false := by rw [beq_eq_false_iff_ne]; omega
                        have hwsz := Hb2.out.size
                        have Hdig : Hid (¬ ∃ h : m < v2.size, 48 ≤ (v2[m]'h).toNat ∧ (v2[m]'h).toNat ≤ 57) := hdig
                        clear hk0 HR3 HD2 hdig
                        have hway : (¬ m < v2.size) ∨ (∃ h : m < v2.size, ¬ (48 : Int) ≤ ((v2[m]'h).toNat : Int)) ∨ (∃ h : m < v2.size, (48 : Int) ≤ ((v2[m]'h).toNat : Int) ∧ ¬ ((v2[m]'h).toNat : Int) ≤ 57) := by
                          by_cases h : m < v2.size
                          · right
                            by_cases h48 : (48 : Int) ≤ ((v2[m]'h).toNat : Int)
                            · right
                              refine ⟨h, h48, fun h57 => Hdig.out ⟨h, ?_, ?_⟩⟩ <;> omega
                            · left; exact ⟨h, h48⟩
                          · left; exact h
                        rcases hway with hw1 | ⟨hw1, hw2⟩ | ⟨hw1, hw2, hw3⟩
                        all_goals
                          go_wp2_with (at_builtin; refine wpList_append_lies _ rfl (.tmp 180) (.tmp 182) 26 rfl w3.heap.size 3 i3 (.int .i64 0) 1 8 Try.underlying26 hi3 hz30 hz31 hz32 rfl (by omega) (.slice ao2 n2 cp2) n2 (ns.map (Value.int .i64)) rfl (Ho2.out.alloc _) ⟨wr.heap.size, 0, none⟩ 1 1 [.int .i64 x] rfl rfl (cell_one_new _ _ _) (int_oneCell .i64 x) (by omega) (by unfold maxLen; omega) (by omega) (by simp; omega) (wr.heap.size + 1) (by simp) ?_)
                          intro g cp' w4 hown4 hgrow4 _ _
                          have Ho4 : Hid (w4.ownsRow w3.heap.size 3 1 (.slice (some ⟨g, 0, none⟩) (n2 + 1) cp') (n2 + 1) ((ns ++ [x]).map (Value.int .i64))) := by
                            show w4.ownsRow _ _ _ _ _ _
                            rw [List.map_append]; exact hown4
                          have Hb4 : Hid (Below w3.heap.size w3 w4) := (Hb2.out.alloc hwsz _).grown hgrow4 (by simp; omega) (fun j hj => (Ho2.out.lt j hj).1)
                          have Hn4 : Hid (n2 + 1 = (ns ++ [x]).length) := by show n2 + 1 = _; rw [Hn2.out]; simp
                          clear hown4 hgrow4 Ho2
                          go_wp2
                          go_roundw
                          case rel => exact ⟨m, n2 + 1, cp', some ⟨g, 0, none⟩, ns ++ [x], rfl, rfl, by omega, by omega, Hn4, HR4, Ho4, Hb4⟩
                          case measure => simp [intOf]; omega
                  · have hbb : ((v2[k2].toNat : Int) != 36) = true := by rw [bne_iff_ne]; omega
                    have HR3 : Hid (NumRel vals nums ns (k2 + 1)) := num_skip HR2.out hkv (by rw [hbe]; exact hb)
                    clear hb hbe HR2 hkv
                    go_wp2
                    go_roundw
                    case rel => exact ⟨k2 + 1, n2, cp2, ao2, ns, by go_num, rfl, by omega, by omega, Hn2, HR3, Ho2, Hb2⟩
                    case measure => simp [intOf]; omega
                · have hns := num_done HR2.out (by rw [← Hvl.out]; omega)
                  subst hns
                  have hn2l : 0 < n2 := by
                    have := List.length_pos_iff.2 HN0.out
                    have := Hn2.out
                    omega
                  obtain ⟨gn, cn, hv, _, hgn⟩ := Ho2.out.form hn2l
                  have hao : ao2 = some ⟨gn, 0, none⟩ ∧ cp2 = cn := by simpa using hv
                  obtain ⟨rfl, rfl⟩ := hao
                  have hCN : ∀ j, j < ns.length → wr.cell? ⟨gn, j, none⟩ = some (.int .i64 (ns.getD j 0)) := by
                    have h := Ho2.out
                    rw [Hn2.out] at h
                    exact cells_nums h
                  have HCN : Hid (∀ j, j < ns.length → wr.cell? ⟨gn, j, none⟩ = some (.int .i64 (ns.getD j 0))) := hCN
                  have HC2 : Hid (∀ j, j < cols.length → wr.cell? ⟨gc, j, none⟩ = some (.string (bs (cols.getD j [])))) := fun j hj => (Hb2.out.cell (by exact hgc)).trans (HCC.out j hj)
                  have HBB : Hid (Below w''.heap.size w'' wr) := Hb.out.trans (Hb2.out.mono Hb.out.size)
                  have hgcw : gc < wr.heap.size := Nat.lt_of_lt_of_le hgc Hb2.out.size
                  clear hv hCN Ho2 HR2
                  go_wp2
                  refine bodyPost_ret (v := .tuple #[.string tb, .slice (some ⟨gc, 0, none⟩) n cp, .slice (some ⟨gn, 0, none⟩) n2 cp2, .bool true]) (by simp [results, Try.results7, go_sem]) rfl ?_
                  refine ⟨gc, cp, gn, cp2, ?_, HC2.out, HCN.out, hgcw, hgn, HBB.out⟩
                  rw [HTB.out, Hnl.out, Hn2.out]

end Go.Proofs.Qxb6617513a
