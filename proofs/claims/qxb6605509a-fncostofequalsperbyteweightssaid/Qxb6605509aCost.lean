/-
  THE WALKS of 'costOf', 'ZZcostOf'.
-/
import Derived.Test.Qxb6605509aLeaves
import Derived.Deep.QuietTactic
import Derived.BigQuiet
namespace Go.Proofs.Qxb6605509a
open Go.RowKit

/-- a slice of the bytes zs that the call itself laid (or that has no byte) -/
def Cl (w : World) (p : Option Addr) (n : Nat) (zs : List Int) : Prop :=
  zs.length = n ∧ (∀ j, 0 ≤ zs.getD j 0 ∧ zs.getD j 0 < 256) ∧ (n = 0 ∨ ∃ g, p = some ⟨g, 0, none⟩ ∧ ∀ j, j < n → w.cell? ⟨g, j, none⟩ = some (.int .u8 (zs.getD j 0)))

theorem yaml_mark (g cap : Nat) (zs : List Int) (i : Nat) (w : World) (hn : zs.length ≤ 1099511627776) (hi : i < zs.length) (hr : ∀ j, 0 ≤ zs.getD j 0 ∧ zs.getD j 0 < 256)
    (hc : ∀ j, j < zs.length → w.cell? ⟨g, j, none⟩ = some (.int .u8 (zs.getD j 0))) :
    Calls Try.prog 16 #[.slice (some ⟨g, 0, none⟩) zs.length cap, .int .i64 i] w fun e w' => e = .returned (.bool (mark zs i)) ∧ w' = w := by
  have h := mark_core g zs.length cap i (zs.getD i 0) w hn hi (hc i hi) (zs.getD (i + 1) 0) (zs.getD (i - 1) 0) (fun h => hc _ h) (fun _ => hc _ (by omega)) (hr _).1 (hr _).2
  rw [mark_of zs i hi] at h
  exact h

theorem int_eq {k : IntKind} {a b : Int} (h : a = b) : Value.int k a = Value.int k b := by rw [h]

set_option maxHeartbeats 1600000 in
theorem cost_some (g cap : Nat) (zs : List Int) (w : World) (hn : zs.length ≤ 1048576) (hr : ∀ j, 0 ≤ zs.getD j 0 ∧ zs.getD j 0 < 256)
    (hc : ∀ j, j < zs.length → w.cell? ⟨g, j, none⟩ = some (.int .u8 (zs.getD j 0))) :
    Calls Try.prog 15 #[.slice (some ⟨g, 0, none⟩) zs.length cap] w fun e w' => e = .returned (.agg #[.int .i64 (costJ zs), .int .i64 (costY zs)]) ∧ Below w.heap.size w w' := by
  obtain ⟨n, hl⟩ : ∃ n, zs.length = n := ⟨_, rfl⟩
  have HM : Hid (∀ i w, i < n → (∀ j, j < n → w.cell? ⟨g, j, none⟩ = some (.int .u8 (zs.getD j 0))) → Calls Try.prog 16 #[.slice (some ⟨g, 0, none⟩) n cap, .int .i64 i] w fun e w' => e = .returned (.bool (mark zs i)) ∧ w' = w) := by
    subst hl
    exact fun i w hi hc => yaml_mark g cap zs i w (by omega) hi hr hc
  have HL : Hid (zs.length = n) := hl
  rw [hl] at hn hc ⊢
  clear hl
  go_enter Try.func15, Try.ntmps15
  go_wp2
  go_loop [3, 4, 5, 6, 12] (fun a b h e i => ∃ k : Nat, k ≤ n ∧ i = .int .i64 k ∧ a = .int .i64 (vals zs k) ∧ b = .int .i64 (nodes zs k) ∧ h = .int .i64 (highs zs k) ∧ e = .int .i64 (escs zs k)) (fun _ _ _ _ i => n - (intOf i).toNat)
  case atStart => exact ⟨0, Nat.zero_le _, rfl, rfl, rfl, rfl, rfl⟩
  case round =>
    obtain ⟨k, hk, rfl, rfl, rfl, rfl, rfl⟩ := hrel
    have b1 : vals zs k ≤ k := cnt_le _ _
    have b2 : nodes zs k ≤ k := cnt_le _ _
    have b3 : highs zs k ≤ k := cnt_le _ _
    have b4 : escs zs k ≤ k := cnt_le _ _
    by_cases hlt : k < n
    · have hck : (w.alloc (.cells #[.int .i64 0, .int .i64 0] 33)).cell? ⟨g, k, none⟩ = some (.int .u8 (zs.getD k 0)) := cell_later ((Below.refl _ _).alloc (Nat.le_refl _) _) (hc k hlt)
      have HC : Hid (∀ j, j < n → (w.alloc (.cells #[.int .i64 0, .int .i64 0] 33)).cell? ⟨g, j, none⟩ = some (.int .u8 (zs.getD j 0))) := fun j hj => cell_later ((Below.refl _ _).alloc (Nat.le_refl _) _) (hc j hj)
      have s1 := vals_succ zs k
      have s2 := nodes_succ zs k
      have s3 := highs_succ zs k
      have s4 := escs_succ zs k
      obtain ⟨c, hcc⟩ : ∃ c, zs.getD k 0 = c := ⟨_, rfl⟩
      obtain ⟨m, hm⟩ : ∃ m, mark zs k = m := ⟨_, rfl⟩
      rw [hcc] at s1 s3 s4 hck
      rw [hm] at s2
      have S : Hid (vals zs (k + 1) = vals zs k + (isVal c).toNat ∧ nodes zs (k + 1) = nodes zs k + m.toNat ∧ highs zs (k + 1) = highs zs k + (decide (128 ≤ c)).toNat ∧ escs zs (k + 1) = escs zs k + (decide (c = 92)).toNat) := ⟨s1, s2, s3, s4⟩
      have HK : Hid (mark zs k = m) := hm
      clear s1 s2 s3 s4 hcc hm hc hr
      go_wp2_with (go_at_call 16; refine (HM.out k _ hlt HC.out).mono ?_; rintro e w' ⟨rfl, rfl⟩; rw [HK.out])
      all_goals
        go_round
        case rel =>
          obtain ⟨S1, S2, S3, S4⟩ := S.out
          clear S HK HC HM hck
          try simp only [beq_iff_eq, beq_eq_false_iff_ne, ne_eq] at *
          refine ⟨k + 1, by omega, by go_num, int_eq ?_, int_eq ?_, int_eq ?_, int_eq ?_⟩
          · rw [S1, isVal]; first | (rw [tn_pos (by omega)]; omega) | (rw [tn_neg (by omega)]; omega)
          · rw [S2]; simp [*]
          · rw [S3]; first | (rw [tn_pos (by omega)]; omega) | (rw [tn_neg (by omega)]; omega)
          · rw [S4]; first | (rw [tn_pos (by omega)]; omega) | (rw [tn_neg (by omega)]; omega)
        case measure => simp [intOf]; omega
    · obtain rfl : k = n := by omega
      have EJ : Hid (costJ zs = 8 * (k : Int) + 16 * (highs zs k : Int) + 320 * ((vals zs k : Int) + 1)) := by show _ = _; unfold costJ; rw [HL.out]
      have EY : Hid (costY zs = 8 * (k : Int) + 16 * (highs zs k : Int) + 24 * (escs zs k : Int) + 1024 * ((nodes zs k : Int) + 1)) := by show _ = _; unfold costY; rw [HL.out]
      clear HM hc hr
      go_wp2
      refine bodyPost_ret (v := .agg #[.int .i64 (8 * (k : Int) + 16 * (highs zs k : Int) + 320 * ((vals zs k : Int) + 1)), .int .i64 (8 * (k : Int) + 16 * (highs zs k : Int) + 24 * (escs zs k : Int) + 1024 * ((nodes zs k : Int) + 1))]) ?_ rfl ⟨by rw [EJ.out, EY.out], ?_⟩
      · simp [results, Try.results15, go_sem]
      · exact (Below.refl _ _).alloc (Nat.le_refl _) _

set_option maxHeartbeats 400000 in
theorem cost_none (p : Option Addr) (cap : Nat) (w : World) :
    Calls Try.prog 15 #[.slice p 0 cap] w fun e w' => e = .returned (.agg #[.int .i64 (costJ []), .int .i64 (costY [])]) ∧ Below w.heap.size w w' := by
  go_enter Try.func15, Try.ntmps15
  go_wp2
  go_loop [3, 4, 5, 6, 12] (fun a b h e i => a = .int .i64 0 ∧ b = .int .i64 0 ∧ h = .int .i64 0 ∧ e = .int .i64 0 ∧ i = .int .i64 0) (fun _ _ _ _ _ => 0)
  case atStart => exact ⟨rfl, rfl, rfl, rfl, rfl⟩
  case round =>
    obtain ⟨rfl, rfl, rfl, rfl, rfl⟩ := hrel
    go_wp2
    refine bodyPost_ret (v := .agg #[.int .i64 320, .int .i64 1024]) ?_ rfl ⟨rfl, (Below.refl _ _).alloc (Nat.le_refl _) _⟩
    simp [results, Try.results15, go_sem]

theorem cost_any (p : Option Addr) (n cap : Nat) (zs : List Int) (w : World) (h : Cl w p n zs) (hn : n ≤ 1048576) :
    Calls Try.prog 15 #[.slice p n cap] w fun e w' => e = .returned (.agg #[.int .i64 (costJ zs), .int .i64 (costY zs)]) ∧ Below w.heap.size w w' := by
  obtain ⟨rfl, hr, h0 | ⟨g, rfl, hc⟩⟩ := h
  · obtain rfl := List.eq_nil_of_length_eq_zero h0
    exact cost_none p cap w
  · exact cost_some g cap zs w hn hr hc

set_option maxHeartbeats 400000 in
theorem zz_cost (p : Option Addr) (n cap : Nat) (zs : List Int) (w : World) (h : Cl w p n zs) (hn : n ≤ 1048576) :
    Calls Try.prog 9 #[.slice p n cap] w fun e w' => e = .returned (.tuple #[.int .i64 (costJ zs), .int .i64 (costY zs)]) ∧ Below w.heap.size w w' := by
  have HC : Hid (∀ w, Cl w p n zs → Calls Try.prog 15 #[.slice p n cap] w fun e w' => e = .returned (.agg #[.int .i64 (costJ zs), .int .i64 (costY zs)]) ∧ Below w.heap.size w w') := fun w h => cost_any p n cap zs w h hn
  have HH : Hid (Cl w p n zs) := h
  obtain ⟨J, hJ⟩ : ∃ J, costJ zs = J := ⟨_, rfl⟩
  obtain ⟨Y, hY⟩ : ∃ Y, costY zs = Y := ⟨_, rfl⟩
  rw [hJ, hY] at HC ⊢
  clear hJ hY h
  go_enter Try.func9, Try.ntmps9
  go_wp2_with (go_at_call 15; refine (HC.out _ HH.out).mono ?_; rintro e w1 ⟨rfl, hb⟩)
  go_region
  all_goals go_wp2
  all_goals go_ret2
  all_goals exact ⟨rfl, (hb.alloc hb.size _).drew⟩

end Go.Proofs.Qxb6605509a
