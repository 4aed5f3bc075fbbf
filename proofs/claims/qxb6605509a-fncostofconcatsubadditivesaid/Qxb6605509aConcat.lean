/-
  THE WALK of the law 'FnCostOfConcatSubadditive'.
-/
import Derived.Test.Qxb6605509aClone
import Derived.Test.Qxb6605509aConcatPlain
namespace Go.Proofs.Qxb6605509a
open Go.RowKit

set_option maxHeartbeats 400000 in
theorem concat_long (a0 : Option Addr) (len0 cap0 : Nat) (a1 : Option Addr) (len1 cap1 : Nat) (w : World) (m0 : len0 ≤ maxLen) (m1 : len1 ≤ maxLen) (h : 524288 < len0 ∨ 524288 < len1) :
    Calls Try.prog 4 #[.slice a0 len0 cap0, .slice a1 len1 cap1] w fun e w' => e = .returned (.bool true) ∧ Below w.heap.size w w' := by
  unfold maxLen at m0 m1
  by_cases h0 : 524288 < len0
  · clear h
    go_enter Try.func4, Try.ntmps4
    go_wp2
    all_goals (go_ret; exact ⟨rfl, Below.refl _ _⟩)
  · have h1 : 524288 < len1 := by omega
    clear h
    go_enter Try.func4, Try.ntmps4
    go_wp2
    all_goals (go_ret; exact ⟨rfl, Below.refl _ _⟩)

theorem row_len {k : IntKind} {w : World} {a : Option Addr} {len cap : Nat} {zs : List Int} (h : IsRow k w a len cap zs) : len ≤ maxLen := by
  rcases h with ⟨_, rfl, _⟩ | ⟨x, h1, h2, h3, _⟩
  · exact Nat.zero_le _
  · omega

theorem row_later {k : IntKind} {w w1 : World} {a : Option Addr} {len cap : Nat} {zs : List Int} (h : IsRow k w a len cap zs) (hb : Below w.heap.size w w1) : IsRow k w1 a len cap zs := by
  rcases h with h | ⟨x, h1, h2, h3, h4, h5, h6⟩
  · exact .inl h
  · exact .inr ⟨x, h1, h2, h3, h4, fun i hi => cell_later hb (h5 i hi), h6⟩

theorem cl_src {w W : World} {p : Option Addr} {n : Nat} {X : List Int} (h : Cl w p n X) (hb : Below w.heap.size w W) (h0 : 0 < X.length) :
    ∃ ad, p = some ad ∧ ∀ (j : Nat) (a : Int), X[j]? = some a → W.cell? (ad.add j) = some (.int .u8 a) := by
  obtain ⟨h1, h2, h3 | ⟨g, h3, h4⟩⟩ := h
  · omega
  · refine ⟨_, h3, fun j a ha => ?_⟩
    have hj : j < X.length := (List.getElem?_eq_some_iff.1 ha).1
    have e : (⟨g, 0, none⟩ : Addr).add j = ⟨g, j, none⟩ := by unfold Addr.add; split <;> simp_all
    rw [e]
    have := cell_later hb (h4 j (by omega))
    rw [List.getD_eq_getElem?_getD, ha] at this
    exact this

theorem splice_two (n : Nat) (z : Value) (c0 c1 : List Value) (h : c0.length + c1.length = n) : splice (splice (madeCells #[z] n).toList 0 c0) c0.length c1 = c0 ++ c1 := by
  have e : splice (madeCells #[z] n).toList 0 c0 = c0 ++ (madeCells #[z] n).toList.drop c0.length := by
    unfold splice
    rw [List.take_zero, List.nil_append, Nat.zero_add]
  rw [e]
  unfold splice
  rw [List.take_left, List.drop_eq_nil_of_le (by simp [size_madeCells]; omega)]
  simp

theorem cat_cl {w w4 : World} {p q : Option Addr} {n m g : Nat} {X Y : List Int} (h : Cl w p n X) (k : Cl w q m Y)
    (hg : w4.heap[g]? = some (.cells (splice (splice (madeCells #[.int .u8 0] (n + m)).toList 0 (X.map (Value.int .u8))) n (Y.map (Value.int .u8))).toArray 5 (0, 0))) :
    Cl w4 (some ⟨g, 0, none⟩) (n + m) (X ++ Y) := by
  obtain ⟨rfl, h2, _⟩ := h
  obtain ⟨rfl, k2, _⟩ := k
  have e : X.length = (X.map (Value.int .u8)).length := by simp
  have e2 : splice (splice (madeCells #[.int .u8 0] (X.length + Y.length)).toList 0 (X.map (Value.int .u8))) X.length (Y.map (Value.int .u8)) = (X ++ Y).map (Value.int .u8) := by
    conv => lhs; arg 2; rw [e]
    rw [splice_two _ _ _ _ (by simp), List.map_append]
  rw [e2] at hg
  rw [← List.length_append]
  refine cl_of_row (fun j => ?_) hg
  by_cases hj : j < X.length
  · rw [getD_left X Y j hj]; exact h2 j
  · obtain ⟨i, rfl⟩ : ∃ i, j = X.length + i := ⟨j - X.length, by omega⟩
    rw [getD_right]; exact k2 i

set_option maxHeartbeats 800000 in
theorem concat_main (a0 : Option Addr) (len0 cap0 : Nat) (z0 : List Int) (a1 : Option Addr) (len1 cap1 : Nat) (z1 : List Int) (w : World) (w0 : IsRow .u8 w a0 len0 cap0 z0) (w1 : IsRow .u8 w a1 len1 cap1 z1)
    (h0 : len0 ≤ 524288) (h1 : len1 ≤ 524288) :
    Calls Try.prog 4 #[.slice a0 len0 cap0, .slice a1 len1 cap1] w fun e w' => e = .returned (.bool true) ∧ Below w.heap.size w w' := by
  have H0 := hid w0
  have H1 := hid w1
  clear w0 w1
  have hmk := run_make_row' (P := Try.prog) 22 5 (.int .u8 0) 1 Try.underlying22 info5 rfl .i64 .i64 (len0 + len1) (by omega) (by omega)
  rw [show ((len0 + len1 : Nat) : Int) = (len0 : Int) + (len1 : Int) from by omega] at hmk
  go_enter Try.func4, Try.ntmps4
  go_wp2_with (go_at_call 10; go_in)
  refine (clone_any a0 len0 cap0 z0 _ H0.out (by omega)).mono ?_
  rintro e wa ⟨pa, ca, rfl, hcl0, hb0⟩
  have HA := hid hcl0
  have H1' := hid (row_later H1.out hb0)
  have HB0 := hid hb0
  clear H0 H1 hcl0 hb0
  go_wp2_with fail
  refine (clone_any a1 len1 cap1 z1 _ H1'.out (by omega)).mono ?_
  rintro e wb ⟨pb, cb, rfl, hcl1, hb1⟩
  have HA1 := hid (HA.out.later hb1)
  have HB1 := hid hcl1
  have HBW : Hid (Below w.heap.size w wb) := HB0.out.trans (hb1.mono HB0.out.size)
  clear HA H1' HB0 hcl1 hb1
  obtain ⟨X0, hX0⟩ : ∃ X, X = z0.take len0 := ⟨_, rfl⟩
  obtain ⟨X1, hX1⟩ : ∃ X, X = z1.take len1 := ⟨_, rfl⟩
  rw [← hX0] at HA1
  rw [← hX1] at HB1
  clear hX0 hX1
  have HX0 : Hid ((X0.map (Value.int .u8)).length = len0) := by show _ = _; rw [List.length_map]; exact HA1.out.1
  have HX1 : Hid ((X1.map (Value.int .u8)).length = len1) := by show _ = _; rw [List.length_map]; exact HB1.out.1
  go_wp2_with (first
    | (refine wpList_copy_splice rfl (.tmp 33) (.tmp 34) 22 22 rfl 5 Try.underlying22 size5 _ _ _ _ _ _ rfl rfl wb.heap.size 0 (madeCells #[.int .u8 0] (len0 + len1)).toList 5 ?c1 (X0.map (Value.int .u8)) ?c2 ?c3 ?c4 (ints_oneCell _ _) wb.heap.size wb ?c6 (Nat.le_refl _) ?_))
  case c1 => simpa using heap_alloc_new wb _
  case c2 => rw [HX0.out]; exact (Nat.min_eq_left (Nat.le_add_right _ _)).symm
  case c3 => exact cl_src HA1.out ((Below.refl _ _).alloc (Nat.le_refl _) _)
  case c4 => rw [HX0.out]; simp [size_madeCells]
  case c6 => exact (Below.refl _ _).alloc (Nat.le_refl _) _
  intro w3 HG3 hB3
  have HB3 := hid hB3
  obtain ⟨R0, hR0⟩ : ∃ R, R = splice (madeCells #[.int .u8 0] (len0 + len1)).toList 0 (X0.map (Value.int .u8)) := ⟨_, rfl⟩
  rw [← hR0] at HG3
  have HR0 := hid hR0
  have HRl : Hid (R0.length = len0 + len1) := by show _ = _; rw [hR0, length_splice _ _ _ (by rw [HX0.out]; simp [size_madeCells])]; simp [size_madeCells]
  clear hB3 hmk hR0
  go_wp2_with (first
    | (refine wpList_copy_splice rfl (.tmp 39) (.tmp 40) 22 22 rfl 5 Try.underlying22 size5 _ _ _ _ _ _ rfl rfl wb.heap.size len0 R0 5 HG3.out (X1.map (Value.int .u8)) ?_ ?_ ?_ (ints_oneCell _ _) wb.heap.size wb HB3.out (Nat.le_refl _) ?_))
  · rw [HX1.out]; exact (Nat.min_self _).symm
  · exact fun h => absurd h (by have := HB1.out.1; omega)
  · exact cl_src HB1.out HB3.out
  · rw [HX1.out, HRl.out]; exact Nat.le_refl _
  all_goals
    intro w4 HG4 hB4
    have HB4 := hid hB4
    have HAB : Hid (Cl w4 (some ⟨wb.heap.size, 0, none⟩) (len0 + len1) (X0 ++ X1)) := cat_cl HA1.out HB1.out (by rw [← HR0.out]; exact HG4.out)
    clear hB4 HG4 HG3 HB3 HR0 HRl HX0 HX1
    first
      | (have h' : len1 = 0 := by assumption
         subst h')
      | skip
    go_wp2_with fail
    refine (zz_cost pa len0 ca X0 _ (HA1.out.later HB4.out) (by omega)).mono ?_
    rintro e w5 ⟨rfl, hb5⟩
    have HB5 : Hid (Below wb.heap.size wb w5) := HB4.out.trans (hb5.mono HB4.out.size)
    have HAB5 := hid (HAB.out.later hb5)
    clear HAB hb5 HB4
    go_wp2_with fail
    refine (zz_cost pb _ cb X1 _ (HB1.out.later HB5.out) (by omega)).mono ?_
    rintro e w6 ⟨rfl, hb6⟩
    have HB6 : Hid (Below wb.heap.size wb w6) := HB5.out.trans (hb6.mono HB5.out.size)
    have HAB6 := hid (HAB5.out.later hb6)
    clear HAB5 hb6 HB5
    go_wp2_with fail
    refine (zz_cost _ _ _ (X0 ++ X1) _ HAB6.out (by omega)).mono ?_
    rintro e w7 ⟨rfl, hb7⟩
    have HB7 : Hid (Below w.heap.size w w7) := HBW.out.trans ((HB6.out.trans (hb7.mono HB6.out.size)).mono HBW.out.size)
    have l0 : X0.length = len0 := HA1.out.1
    have l1 := HB1.out.1
    have c0 := cost_bounds X0 (by omega)
    have c1 := cost_bounds X1 (by omega)
    have j2 := json_cat X0 X1
    obtain ⟨t, ht, y2⟩ := yaml_cat X0 X1
    obtain ⟨JA, hJA⟩ : ∃ J, costJ X0 = J := ⟨_, rfl⟩
    obtain ⟨YA, hYA⟩ : ∃ J, costY X0 = J := ⟨_, rfl⟩
    obtain ⟨JB, hJB⟩ : ∃ J, costJ X1 = J := ⟨_, rfl⟩
    obtain ⟨YB, hYB⟩ : ∃ J, costY X1 = J := ⟨_, rfl⟩
    obtain ⟨JAB, hJAB⟩ : ∃ J, costJ (X0 ++ X1) = J := ⟨_, rfl⟩
    obtain ⟨YAB, hYAB⟩ : ∃ J, costY (X0 ++ X1) = J := ⟨_, rfl⟩
    rw [hJA, hYA] at c0
    rw [hJB, hYB] at c1
    rw [hJA, hJB, hJAB] at j2
    rw [hYA, hYB, hYAB] at y2
    rw [hJA, hYA, hJB, hYB, hJAB, hYAB]
    obtain ⟨c01, c02, c03, c04⟩ := c0
    obtain ⟨c11, c12, c13, c14⟩ := c1
    have HJ := hid j2
    have HY := hid y2
    have b1 : 0 ≤ YAB + 5000 := by omega
    have b2 : YAB ≤ 4000000000 := by omega
    have b3 : 0 ≤ JAB + 5000 := by omega
    have b4 : JAB ≤ 4000000000 := by omega
    clear j2 y2 hJA hYA hJB hYB hJAB hYAB HAB6 HB6 hb7 l0 l1 HA1 HB1 HBW
    have e1 : (JAB + 320 == JA + JB) = true := by rw [beq_iff_eq]; exact HJ.out
    have e2 : YAB + 1024 - YA - YB ≤ 0 := by have := HY.out; omega
    have e3 : -2048 ≤ YAB + 1024 - YA - YB := by have := HY.out; omega
    have e4 : ((YAB + 1024 - YA - YB).tmod 1024 == 0) = true := by rw [HY.out]; exact rem_ok t
    clear HJ HY
    go_wp2
    go_ret
    exact ⟨rfl, HB7.out⟩

theorem concat_any (a0 : Option Addr) (len0 cap0 : Nat) (z0 : List Int) (a1 : Option Addr) (len1 cap1 : Nat) (z1 : List Int) (w : World) (w0 : IsRow .u8 w a0 len0 cap0 z0) (w1 : IsRow .u8 w a1 len1 cap1 z1) :
    Calls Try.prog 4 #[.slice a0 len0 cap0, .slice a1 len1 cap1] w fun e w' => e = .returned (.bool true) ∧ Below w.heap.size w w' := by
  by_cases h : 524288 < len0 ∨ 524288 < len1
  · exact concat_long a0 len0 cap0 a1 len1 cap1 w (row_len w0) (row_len w1) h
  · exact concat_main a0 len0 cap0 z0 a1 len1 cap1 z1 w w0 w1 (by omega) (by omega)
end Go.Proofs.Qxb6605509a
