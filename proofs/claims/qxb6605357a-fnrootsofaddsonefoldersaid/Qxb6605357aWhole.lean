/-
  THE WALK of the law 'FnRootsOfWhole'.
-/
import Derived.Test.Qxb6605357aRootsOf
namespace Go.Proofs.Qxb6605357a
open Go.RowKit

theorem owns_get {w : World} {base n : Nat} {v : Value} {xs : List Value} (h : w.ownsRow base 9 1 v n xs) (hn : 0 < n) :
    ∃ g cap, v = .slice (some ⟨g, 0, none⟩) n cap ∧ base ≤ g ∧ g < w.heap.size ∧ xs.length = n ∧ ∀ j u, xs[j]? = some u → w.cell? ⟨g, j, none⟩ = some u := by
  have hc := fun g hg => World.ownsRow.cells h (g := g) hg
  obtain ⟨h1, h2⟩ := h
  rcases h2 with ⟨rfl, e⟩ | ⟨g, cap, cur, rfl, hb, hg, _⟩
  · omega
  · refine ⟨g, cap, rfl, hb, (Array.getElem?_eq_some_iff.1 hg).1, by omega, fun j u hu => ?_⟩
    have := hc g rfl j u hu
    rwa [show (⟨g, 0, none⟩ : Addr).add j = ⟨g, j, none⟩ from by unfold Addr.add; split <;> simp_all] at this

set_option maxHeartbeats 400000 in
theorem whole_long (s : ByteArray) (w : World) (hs : s.size ≤ maxLen) (hl : 4096 < s.size) :
    Calls Try.prog 3 #[.string s] w fun e w' => e = .returned (.bool true) ∧ Below w.heap.size w w' := by
  unfold maxLen at hs
  by_cases h : 1048576 < s.size
  · go_enter Try.func3, Try.ntmps3
    go_wp2
    go_ret
    exact ⟨rfl, Below.refl _ _⟩
  · go_enter Try.func3, Try.ntmps3
    go_wp2
    go_ret
    exact ⟨rfl, Below.refl _ _⟩

set_option maxHeartbeats 400000 in
theorem whole_some (hc : CutAt) (s : ByteArray) (m : Int) (w : World) (hs : s.size ≤ 4096) (hm : w.cell? ⟨0, 0, none⟩ = some (.int .i64 m)) (i : Nat) (hix : Lib.indexB s pat = i) :
    Calls Try.prog 3 #[.string s] w fun e w' => e = .returned (.bool true) ∧ Below w.heap.size w w' := by
  have hi := (hit_at s i hix).1
  have HX : Hid (Lib.index s.data.toList pat.data.toList = i) := hix
  have HC := fun w hm => roots_some hc s m w (by omega) hm i hix
  clear hix hc
  have i1 : (0 : Int) ≤ (i : Int) + 1 := by omega
  have i2 : (i : Int) + 1 ≤ (s.size : Int) := by omega
  go_enter Try.func3, Try.ntmps3
  go_wp2_with (first
    | (go_at_call 12; refine (HC _ hm).mono ?_; rintro e w1 ⟨v, rfl, hown, hb⟩; obtain ⟨g, cap, hv, hg1, hg2, -, hcell⟩ := owns_get hown (by omega); have h0 := hcell 0 _ rfl; rw [hv]; clear hv hcell hown)
    | (go_at_call 9; refine (first_dists s _ (by omega)).mono ?_; rintro e w2 ⟨rfl, n2, rfl⟩; rw [HX.out])
    | go_in)
  go_quiet (fail)
  go_wp2
  go_ret
  exact ⟨rfl, bel_drewN (bel_drewN hb _) _⟩

theorem last_slash (r : ByteArray) (h : 0 < r.size) (h1 : r.data.toList[r.size - 1]? = some 47) : (((r[r.size - 1].toNat : Nat) : Int) != 47) = false := by
  have := (slash_iff r (r.size - 1) (by omega)).1 h1
  rw [this]; rfl

theorem piece_same (r s : ByteArray) (h : r = s.extract 0 r.size) : (r.toList != (s.extract 0 r.size).toList) = false := by
  rw [← h]; simp

set_option maxHeartbeats 800000 in
theorem whole_none (hc : CutAt) (s : ByteArray) (m : Int) (w : World) (hs : s.size ≤ 4096) (hm : w.cell? ⟨0, 0, none⟩ = some (.int .i64 m)) (hix : Lib.indexB s pat = -1) :
    Calls Try.prog 3 #[.string s] w fun e w' => e = .returned (.bool true) ∧ Below w.heap.size w w' := by
  have HX : Hid (Lib.index s.data.toList pat.data.toList = -1) := hix
  have HC := fun w hm => roots_none hc s m w (by omega) hm hix
  clear hix hc
  obtain ⟨N, hN⟩ : ∃ N, (sl s (s.size - 1)).length = N := ⟨_, rfl⟩
  have HN : Hid ((sl s (s.size - 1)).length = N) := hN
  have HL : Hid ((roots s).length = N + 1) := by show _ = _; rw [roots_length, hN]; omega
  have hL2 : N ≤ 4096 := by rw [← hN]; have := sl_length_le s (s.size - 1); omega
  clear hN
  go_enter Try.func3, Try.ntmps3
  go_wp2_with (first
    | (go_at_call 12; refine (HC _ hm).mono ?_; rintro e w1 ⟨v, rfl, hown, hb⟩; rw [HL.out] at hown; obtain ⟨g, cap, hv, hg1, hg2, -, hcell⟩ := owns_get hown (by omega); have h0 := hcell 0 _ rfl; rw [hv]; clear hv hown)
    | (go_at_call 9; refine (first_dists s _ (by omega)).mono ?_; rintro e w2 ⟨rfl, n2, rfl⟩; rw [HX.out])
    | go_in)
  go_loop [5, 6] (fun n p => ∃ k c : Nat, k ≤ s.size - 1 ∧ c ≤ k ∧ p = .int .i64 k ∧ n = .int .i64 c ∧ Hid (c = (sl s k).length)) (fun _ p => s.size - (intOf p).toNat)
  case atStart => exact ⟨0, 0, by omega, by omega, rfl, rfl, rfl⟩
  case round =>
    obtain ⟨k, c, hk, hck, rfl, rfl, HK⟩ := hrel
    by_cases hlt : k + 1 < s.size
    · have hks : k < s.size := by omega
      go_wp2
      · have hit : (((s[k].toNat : Nat) : Int) == 47) = true := by assumption
        go_round
        case rel => exact ⟨k + 1, c + 1, by omega, by omega, by go_num, by go_num, by show _ = _; rw [sl_succ_hit s k ((slash_iff s k hks).2 (by simpa using hit)), HK.out]; simp⟩
        case measure => simp [intOf]; omega
      · have hit : (((s[k].toNat : Nat) : Int) == 47) = false := by assumption
        go_round
        case rel => exact ⟨k + 1, c, by omega, by omega, by go_num, by go_num, by show _ = _; rw [sl_succ_miss s k (fun e => by rw [(slash_iff s k hks).1 e] at hit; simp at hit), HK.out]⟩
        case measure => simp [intOf]; omega
    · have hkN : c = N := by rw [HK.out, ← HN.out]; congr 2; omega
      subst hkN
      go_wp2
      clear HK hk hlt HX
      go_loop [7, 8] (fun p i => ∃ q pv : Nat, q ≤ c ∧ pv ≤ 4096 ∧ i = .int .i64 (q + 1 : Nat) ∧ p = .int .i64 pv ∧ Hid (pv = ((roots s)[q]?.getD ByteArray.empty).size)) (fun _ i => c + 1 - (intOf i).toNat)
      case atStart => exact ⟨0, s.size, by omega, by omega, rfl, rfl, rfl⟩
      case round =>
        obtain ⟨q, pv, hq, hpv, rfl, rfl, HP⟩ := hrel
        by_cases hlt : q < c
        · obtain ⟨r, hr1, hr2, hr3, hr4, hr5, hr6⟩ := roots_at s q (by rw [HL.out]; omega)
          have hcr := hcell (q + 1) (.string r) (by rw [List.getElem?_map, hr1]; rfl)
          rw [← HP.out] at hr4
          have hb' := last_slash r hr2 hr6
          have HE : Hid (r = s.extract 0 r.size) := hr5
          have hne := piece_same r s hr5
          have hz0 : (((r.size : Nat) : Int) == 0) = false := by rw [beq_eq_false_iff_ne]; omega
          have hz1 : ¬ r = ByteArray.empty := fun e => by rw [e] at hr2; exact absurd hr2 (by decide)
          have HR : Hid ((roots s)[q + 1]? = some r) := hr1
          clear hr1 hr5 hr6 hcell HP HL HN
          go_wp2
          · go_round
            case rel => exact ⟨q + 1, r.size, by omega, by omega, by go_num, by go_num, by show _ = _; rw [HR.out]; rfl⟩
            case measure => simp [intOf]; omega
          · exact absurd (congrArg ByteArray.toList HE.out) ‹_›
        · go_wp2
          go_ret
          exact ⟨rfl, bel_drewN hb _⟩

theorem whole_any (hc : CutAt) (s : ByteArray) (m : Int) (w : World) (hs : s.size ≤ maxLen) (hm : w.cell? ⟨0, 0, none⟩ = some (.int .i64 m)) :
    Calls Try.prog 3 #[.string s] w fun e w' => e = .returned (.bool true) ∧ Below w.heap.size w w' := by
  by_cases h : 4096 < s.size
  · exact whole_long s w hs h
  · rcases Lib.indexB_cases s pat with hix | ⟨i, hix, _⟩
    · exact whole_none hc s m w (by omega) hm hix
    · exact whole_some hc s m w (by omega) hm i hix

end Go.Proofs.Qxb6605357a
