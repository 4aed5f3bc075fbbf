/-
  THE WALK of the law 'FnCostOfEqualsPerByteWeights'.
-/
import Derived.Test.Qxb6605509aMarks
namespace Go.Proofs.Qxb6605509a
open Go.RowKit

set_option maxHeartbeats 400000 in
theorem marks_none (p : Option Addr) (cap : Nat) (w : World) :
    Calls Try.prog 8 #[.slice p 0 cap] w fun e w' => e = .returned (.slice (some ⟨w.heap.size, 0, none⟩) 0 0) ∧
      w'.rowIs w.heap.size 4 0 (fun j => .bool (mark [] j)) ∧ Below w.heap.size w w' := by
  have hmk := run_make_row' (P := Try.prog) 25 4 (.bool false) 1 Try.underlying25 info4 rfl .i64 .i64 0 (by omega) (by omega)
  rw [show ((0 : Nat) : Int) = 0 from rfl] at hmk
  have hrow := fun w => hid ((World.rowIs_made w (.bool false) 0 4).congr (g := fun j => .bool (mark [] j)) fun j hj => absurd hj (by omega))
  have HR := hid hrow
  clear hrow
  go_enter Try.func8, Try.ntmps8
  go_wp2
  go_loop [4, 5, 6] (fun pd pv i => pd = .bool false ∧ pv = .int .u8 0 ∧ i = .int .i64 0) (fun _ _ _ => 0)
  case atStart => exact ⟨rfl, rfl, rfl⟩
  case round =>
    obtain ⟨rfl, rfl, rfl⟩ := hrel
    go_wp2
    go_ret
    exact ⟨rfl, (HR.out w).out, (Below.refl _ _).alloc (Nat.le_refl _) _⟩

theorem marks_any (p : Option Addr) (n cap : Nat) (zs : List Int) (w : World) (h : Cl w p n zs) (hn : n ≤ 1048576) :
    Calls Try.prog 8 #[.slice p n cap] w fun e w' => e = .returned (.slice (some ⟨w.heap.size, 0, none⟩) n n) ∧
      w'.rowIs w.heap.size 4 n (fun j => .bool (mark zs j)) ∧ Below w.heap.size w w' := by
  obtain ⟨rfl, hr, h0 | ⟨g, rfl, hc⟩⟩ := h
  · obtain rfl := List.eq_nil_of_length_eq_zero h0
    exact marks_none p cap w
  · exact marks_some g cap zs w hn hr hc

theorem row_len1 {k : IntKind} {w : World} {a : Option Addr} {len cap : Nat} {zs : List Int} (h : IsRow k w a len cap zs) : len ≤ maxLen := by
  rcases h with ⟨_, rfl, _⟩ | ⟨x, h1, h2, h3, _⟩
  · exact Nat.zero_le _
  · omega

set_option maxHeartbeats 400000 in
theorem weights_long (a0 : Option Addr) (len0 cap0 : Nat) (w : World) (m0 : len0 ≤ maxLen) (h0 : 1048576 < len0) :
    Calls Try.prog 3 #[.slice a0 len0 cap0] w fun e w' => e = .returned (.bool true) ∧ Below w.heap.size w w' := by
  unfold maxLen at m0
  go_enter Try.func3, Try.ntmps3
  go_wp2
  all_goals (go_ret; exact ⟨rfl, Below.refl _ _⟩)

/-- the sums after k bytes -/
def sumJ (zs : List Int) (k : Nat) : Int := 320 + 8 * k + 16 * highs zs k + 320 * vals zs k
def sumY (zs : List Int) (k : Nat) : Int := 1024 + 8 * k + 16 * highs zs k + 24 * escs zs k + 1024 * nodes zs k

theorem sumJ_all (zs : List Int) : sumJ zs zs.length = costJ zs := by unfold sumJ costJ; omega
theorem sumY_all (zs : List Int) : sumY zs zs.length = costY zs := by unfold sumY costY; omega
theorem sumJ_succ (zs : List Int) (k : Nat) : sumJ zs (k + 1) = sumJ zs k + 8 + 16 * (decide (128 ≤ zs.getD k 0)).toNat + 320 * (isVal (zs.getD k 0)).toNat := by
  unfold sumJ; rw [highs_succ, vals_succ]; omega
theorem sumY_succ (zs : List Int) (k : Nat) : sumY zs (k + 1) = sumY zs k + 8 + 16 * (decide (128 ≤ zs.getD k 0)).toNat + 24 * (decide (zs.getD k 0 = 92)).toNat + 1024 * (mark zs k).toNat := by
  unfold sumY; rw [highs_succ, escs_succ, nodes_succ]; omega
theorem sum_bounds (zs : List Int) (k : Nat) (h : k ≤ 1048576) : 0 ≤ sumJ zs k ∧ sumJ zs k ≤ 1000000000 ∧ 0 ≤ sumY zs k ∧ sumY zs k ≤ 2000000000 := by
  have b1 : vals zs k ≤ k := cnt_le _ _
  have b2 : nodes zs k ≤ k := cnt_le _ _
  have b3 : highs zs k ≤ k := cnt_le _ _
  have b4 : escs zs k ≤ k := cnt_le _ _
  unfold sumJ sumY
  omega

theorem tn_cases (p : Prop) [Decidable p] : (p ∧ (decide p).toNat = 1) ∨ (¬ p ∧ (decide p).toNat = 0) := by
  by_cases h : p
  · exact .inl ⟨h, tn_pos h⟩
  · exact .inr ⟨h, tn_neg h⟩

set_option maxHeartbeats 1600000 in
theorem weights_main (a0 : Option Addr) (len0 cap0 : Nat) (z0 : List Int) (w : World) (w0 : IsRow .u8 w a0 len0 cap0 z0) (h0 : len0 ≤ 1048576) (hpos : 0 < len0) :
    Calls Try.prog 3 #[.slice a0 len0 cap0] w fun e w' => e = .returned (.bool true) ∧ Below w.heap.size w w' := by
  have H0 := hid w0
  clear w0
  go_enter Try.func3, Try.ntmps3
  go_wp2_with (go_at_call 6; go_in)
  refine (clone_any a0 len0 cap0 z0 _ H0.out (by omega)).mono ?_
  rintro e wa ⟨pa, ca, rfl, hcl0, hb0⟩
  obtain ⟨zs, hzs⟩ : ∃ X, X = z0.take len0 := ⟨_, rfl⟩
  rw [← hzs] at hcl0
  obtain ⟨g, hp, _⟩ := hcl0.2.2.resolve_left (by omega)
  rw [hp] at hcl0 ⊢
  have HA := hid hcl0
  have HB0 := hid hb0
  clear H0 hcl0 hb0 hzs hp
  go_wp2_with fail
  refine (marks_any _ len0 ca zs _ HA.out (by omega)).mono ?_
  rintro e wb ⟨rfl, hrow, hb1⟩
  have HA1 := hid (HA.out.later hb1)
  have HROW := hid hrow
  have HBW : Hid (Below w.heap.size w wb) := HB0.out.trans (hb1.mono HB0.out.size)
  clear HA hrow hb1 HB0
  go_wp2_with fail
  go_loop [4, 5, 6] (fun a b i => ∃ k : Nat, k ≤ len0 ∧ i = .int .i64 k ∧ a = .int .i64 (sumJ zs k) ∧ b = .int .i64 (sumY zs k)) (fun _ _ i => len0 - (intOf i).toNat)
  case atStart => exact ⟨0, Nat.zero_le _, rfl, rfl, rfl⟩
  case round =>
    obtain ⟨k, hk, rfl, rfl, rfl⟩ := hrel
    have sb := sum_bounds zs k (by omega)
    obtain ⟨sb1, sb2, sb3, sb4⟩ := sb
    by_cases hlt : k < len0
    · have hck : wb.cell? ⟨g, k, none⟩ = some (.int .u8 (zs.getD k 0)) := by
        obtain ⟨_, _, h | ⟨g', e, hc⟩⟩ := HA1.out
        · omega
        · have e' : g' = g := by simpa using e.symm
          subst e'
          exact hc k hlt
      have hcm := HROW.out.cell hlt
      have s1 := sumJ_succ zs k
      have s2 := sumY_succ zs k
      obtain ⟨c, hcc⟩ : ∃ c, zs.getD k 0 = c := ⟨_, rfl⟩
      obtain ⟨m, hm⟩ : ∃ m, mark zs k = m := ⟨_, rfl⟩
      rw [hcc] at s1 s2 hck
      rw [hm] at s2 hcm
      have S : Hid (sumJ zs (k + 1) = sumJ zs k + 8 + 16 * (decide (128 ≤ c)).toNat + 320 * (isVal c).toNat ∧ sumY zs (k + 1) = sumY zs k + 8 + 16 * (decide (128 ≤ c)).toNat + 24 * (decide (c = 92)).toNat + 1024 * m.toNat) := ⟨s1, s2⟩
      clear s1 s2 hcc hm
      go_wp2
      all_goals
        go_round
        case rel =>
          obtain ⟨S1, S2⟩ := S.out
          clear S HA1 HROW HBW hck hcm
          rw [isVal] at S1
          try simp only [beq_iff_eq, beq_eq_false_iff_ne, ne_eq] at *
          rcases tn_cases (128 ≤ c) with ⟨t1, e1⟩ | ⟨t1, e1⟩ <;> rcases tn_cases (c = 44 ∨ c = 91 ∨ c = 123) with ⟨t2, e2⟩ | ⟨t2, e2⟩ <;> rcases tn_cases (c = 92) with ⟨t3, e3⟩ | ⟨t3, e3⟩ <;>
            first
              | (exfalso; omega)
              | (rw [e1, e2] at S1; rw [e1, e3] at S2; refine ⟨k + 1, by omega, by go_num, int_eq ?_, int_eq ?_⟩
                 · omega
                 · rw [S2]; simp [*])
        case measure => simp [intOf]; omega
    · obtain rfl : k = len0 := by omega
      have l0 : zs.length = k := HA1.out.1
      have HJ : Hid (sumJ zs k = costJ zs) := by show _ = _; rw [← l0]; exact sumJ_all zs
      have HY : Hid (sumY zs k = costY zs) := by show _ = _; rw [← l0]; exact sumY_all zs
      clear l0
      go_wp2_with (go_at_call 9; refine (zz_cost _ _ _ zs _ HA1.out h0).mono ?_; rintro e w7 ⟨rfl, hb7⟩; rw [← HJ.out, ← HY.out])
      go_ret
      exact ⟨rfl, HBW.out.trans (hb7.mono HBW.out.size)⟩

set_option maxHeartbeats 800000 in
theorem weights_zero (a0 : Option Addr) (cap0 : Nat) (z0 : List Int) (w : World) (w0 : IsRow .u8 w a0 0 cap0 z0) :
    Calls Try.prog 3 #[.slice a0 0 cap0] w fun e w' => e = .returned (.bool true) ∧ Below w.heap.size w w' := by
  have H0 := hid w0
  clear w0
  go_enter Try.func3, Try.ntmps3
  go_wp2_with (go_at_call 6; go_in)
  refine (clone_any a0 0 cap0 z0 _ H0.out (by omega)).mono ?_
  rintro e wa ⟨pa, ca, rfl, hcl0, hb0⟩
  have e0 : z0.take 0 = [] := rfl
  rw [e0] at hcl0
  have HA := hid hcl0
  have HB0 := hid hb0
  clear H0 hcl0 hb0 e0
  go_wp2_with fail
  refine (marks_any _ 0 ca [] _ HA.out (by omega)).mono ?_
  rintro e wb ⟨rfl, _, hb1⟩
  have HA1 := hid (HA.out.later hb1)
  have HBW : Hid (Below w.heap.size w wb) := HB0.out.trans (hb1.mono HB0.out.size)
  clear HA hb1 HB0
  go_wp2_with fail
  go_loop [4, 5, 6] (fun a b i => a = .int .i64 320 ∧ b = .int .i64 1024 ∧ i = .int .i64 0) (fun _ _ _ => 0)
  case atStart => exact ⟨rfl, rfl, rfl⟩
  case round =>
    obtain ⟨rfl, rfl, rfl⟩ := hrel
    go_wp2_with (go_at_call 9; refine (zz_cost _ 0 _ [] _ HA1.out (by omega)).mono ?_; rintro e w7 ⟨rfl, hb7⟩; rw [show costJ [] = 320 from rfl, show costY [] = 1024 from rfl])
    go_ret
    exact ⟨rfl, HBW.out.trans (hb7.mono HBW.out.size)⟩

theorem weights_any (a0 : Option Addr) (len0 cap0 : Nat) (z0 : List Int) (w : World) (w0 : IsRow .u8 w a0 len0 cap0 z0) :
    Calls Try.prog 3 #[.slice a0 len0 cap0] w fun e w' => e = .returned (.bool true) ∧ Below w.heap.size w w' := by
  by_cases h : 1048576 < len0
  · exact weights_long a0 len0 cap0 w (row_len1 w0) h
  · by_cases h1 : len0 = 0
    · subst h1
      exact weights_zero a0 cap0 z0 w w0
    · exact weights_main a0 len0 cap0 z0 w w0 (by omega) (by omega)

end Go.Proofs.Qxb6605509a
