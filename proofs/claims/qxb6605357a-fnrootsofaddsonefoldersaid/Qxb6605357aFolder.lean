/-
  THE WALK of the law 'FnRootsOfAddsOneFolder'.
-/
import Derived.Test.Qxb6605357aWhole
import Derived.Test.Qxb6605357aFolderPlain
namespace Go.Proofs.Qxb6605357a
open Go.RowKit

/-- 'ZZrootsOf' hands on 'rootsOf' -/
theorem zz_none (hc : CutAt) (s : ByteArray) (m : Int) (w : World) (hs : s.size ≤ 1000000) (hm : w.cell? ⟨0, 0, none⟩ = some (.int .i64 m)) (hix : Lib.indexB s pat = -1) :
    Calls Try.prog 8 #[.string s] w fun e w' => ∃ v, e = .returned v ∧ w'.ownsRow w.heap.size 9 1 v (roots s).length ((roots s).map Value.string) ∧ Below w.heap.size w w' := by
  have HC := fun w hm => roots_none hc s m w hs hm hix
  clear hix hc
  go_enter Try.func8, Try.ntmps8
  go_wp2_with (go_at_call 12; refine (HC _ hm).mono ?_; rintro e w1 ⟨v, rfl, hown, hb⟩)
  go_ret
  exact ⟨_, rfl, hown, hb⟩

set_option maxHeartbeats 400000 in
theorem folder_long (d g : ByteArray) (w : World) (hd : d.size ≤ maxLen) (hg : g.size ≤ maxLen) (h : 4096 < d.size ∨ 4096 < g.size) :
    Calls Try.prog 4 #[.string d, .string g] w fun e w' => e = .returned (.bool true) ∧ Below w.heap.size w w' := by
  unfold maxLen at hd hg
  by_cases h1 : 1048576 < d.size
  · go_enter Try.func4, Try.ntmps4
    go_wp2
    all_goals (go_ret; exact ⟨rfl, Below.refl _ _⟩)
  · by_cases h2 : 1048576 < g.size
    · go_enter Try.func4, Try.ntmps4
      go_wp2
      all_goals (go_ret; exact ⟨rfl, Below.refl _ _⟩)
    · by_cases h3 : 4096 < d.size
      · go_enter Try.func4, Try.ntmps4
        go_wp2
        all_goals (go_ret; exact ⟨rfl, Below.refl _ _⟩)
      · have h4 : 4096 < g.size := by omega
        clear h
        go_enter Try.func4, Try.ntmps4
        go_wp2
        all_goals (go_ret; exact ⟨rfl, Below.refl _ _⟩)

theorem empty_of_size (d : ByteArray) (h : d.size = 0) : d = ByteArray.empty := by
  obtain ⟨⟨l⟩⟩ := d
  cases l with
  | nil => rfl
  | cons a t => exact absurd h (by show ¬ (t.length + 1 = 0); omega)

theorem last_no_slash (r : ByteArray) (h : 0 < r.size) (h1 : ¬ r.data.toList[r.size - 1]? = some 47) : (((r[r.size - 1].toNat : Nat) : Int) != 47) = true := by
  rw [bne_iff_ne]
  exact fun e => h1 ((slash_iff r (r.size - 1) (by omega)).2 e)

set_option maxHeartbeats 400000 in
theorem folder_bare (d g : ByteArray) (w : World) (hd : d.size ≤ 4096) (hg : g.size ≤ 4096) (h : d.size = 0 ∨ (0 < d.size ∧ d.data.toList[d.size - 1]? ≠ some 47) ∨ g.size = 0) :
    Calls Try.prog 4 #[.string d, .string g] w fun e w' => e = .returned (.bool true) ∧ Below w.heap.size w w' := by
  by_cases h0 : d.size = 0
  · obtain rfl := empty_of_size d h0
    clear h h0
    go_enter Try.func4, Try.ntmps4
    go_wp2
    all_goals (go_ret; exact ⟨rfl, Below.refl _ _⟩)
  · have hpos : 0 < d.size := Nat.pos_of_ne_zero h0
    have hz0 : (((d.size : Nat) : Int) == 0) = false := by rw [beq_eq_false_iff_ne]; omega
    have hz1 : ¬ d = ByteArray.empty := fun e => by rw [e] at h0; exact absurd rfl h0
    by_cases h1 : d.data.toList[d.size - 1]? = some 47
    · obtain rfl := empty_of_size g (by rcases h with h | h | h; exact absurd h h0; exact absurd h1 h.2; exact h)
      have hb' := last_slash d hpos h1
      have hlt : d.size - 1 < d.size := by omega
      clear h h1 hg
      go_enter Try.func4, Try.ntmps4
      go_wp2
      all_goals (go_ret; exact ⟨rfl, Below.refl _ _⟩)
    · have hlt : d.size - 1 < d.size := by omega
      have hb' := last_no_slash d hpos h1
      clear h h1
      go_enter Try.func4, Try.ntmps4
      go_wp2
      all_goals (go_ret; exact ⟨rfl, Below.refl _ _⟩)

set_option maxHeartbeats 800000 in
theorem folder_main (hc : CutAt) (d g : ByteArray) (m : Int) (w : World) (hd : d.size ≤ 4096) (hg : g.size ≤ 4096) (hd0 : 0 < d.size) (hl : d.data.toList[d.size - 1]? = some 47) (hg0 : 0 < g.size)
    (hm : w.cell? ⟨0, 0, none⟩ = some (.int .i64 m)) :
    Calls Try.prog 4 #[.string d, .string g] w fun e w' => e = .returned (.bool true) ∧ Below w.heap.size w w' := by
  have HC : Hid CutAt := hc
  have hb' := last_slash d hd0 hl
  have HL : Hid (d.data.toList[d.size - 1]? = some 47) := hl
  have hz0 : (((d.size : Nat) : Int) == 0) = false := by rw [beq_eq_false_iff_ne]; omega
  have hz1 : ¬ d = ByteArray.empty := fun e => by rw [e] at hd0; exact absurd hd0 (by decide)
  have hz2 : (((g.size : Nat) : Int) == 0) = false := by rw [beq_eq_false_iff_ne]; omega
  have hz3 : ¬ g = ByteArray.empty := fun e => by rw [e] at hg0; exact absurd hg0 (by decide)
  clear hc hl
  go_enter Try.func4, Try.ntmps4
  go_wp2
  clear hb' hz0 hz1 hz2 hz3
  go_loop [5] (fun i => ∃ k : Nat, k ≤ g.size ∧ i = .int .i64 k ∧ Hid (∀ j, j < k → g.data.toList[j]? ≠ some 47)) (fun i => g.size - (intOf i).toNat)
  case atStart => exact ⟨0, by omega, rfl, fun j hj => absurd hj (by omega)⟩
  case round =>
    obtain ⟨k, hk, rfl, HK⟩ := hrel
    by_cases hlt : k < g.size
    · go_wp2
      · go_ret
        exact ⟨rfl, Below.refl _ _⟩
      · have hit : (((g[k].toNat : Nat) : Int) == 47) = false := by assumption
        go_round
        case rel =>
          refine ⟨k + 1, by omega, by go_num, fun j hj => ?_⟩
          by_cases e : j = k
          · subst e
            exact fun e => by rw [(slash_iff g j hlt).1 e] at hit; simp at hit
          · exact HK.out j (by omega)
        case measure => simp [intOf]; omega
    · have HN : Hid (∀ j, j < g.size → g.data.toList[j]? ≠ some 47) := fun j hj => HK.out j (by omega)
      clear HK
      have hls : (long d g).size ≤ 8193 := by rw [long_size]; omega
      rcases Lib.indexB_cases (long d g) pat with hix | ⟨i, hix, _⟩
      · have HX : Hid (Lib.index (long d g).data.toList pat.data.toList = -1) := hix
        go_wp2_with (go_at_call 9; refine (first_dists (long d g) _ (by omega)).mono ?_; rintro e w2 ⟨rfl, n2, rfl⟩; rw [HX.out])
        obtain ⟨N, hN⟩ : ∃ N, (roots d).length = N := ⟨_, rfl⟩
        have HN1 : Hid ((roots d).length = N) := hN
        have HR := roots_long d g hd0 HL.out HN.out
        have hN1 : 1 ≤ N := by rw [← hN, roots_length]; omega
        have hN2 : N ≤ 4096 := by rw [← hN, roots_length]; have := sl_length_le d (d.size - 1); omega
        have hixd := index_long d g hix
        clear hN
        refine (zz_none HC.out (long d g) m _ (by omega) (by exact hm) hix).mono ?_
        rintro e w1 ⟨v, rfl, hown, hb⟩
        rw [HR, List.length_cons, HN1.out, List.map_cons] at hown
        obtain ⟨ga, capa, hv, hga1, hga2, -, hca⟩ := owns_get hown (by omega)
        rw [hv]
        have hm1 : w1.cell? ⟨0, 0, none⟩ = some (.int .i64 m) := cell_later hb hm
        clear hv hown HR hix HX
        go_wp2_with fail
        refine (zz_none HC.out d m _ (by omega) (by exact hm1) hixd).mono ?_
        rintro e w3 ⟨v3, rfl, hown3, hb3⟩
        rw [HN1.out] at hown3
        obtain ⟨gb, capb, hv3, hgb1, hgb2, -, hcb⟩ := owns_get hown3 (by omega)
        rw [hv3]
        have hbw : Below w.heap.size w w3 := (bel_drewN (Below.refl _ _) n2).trans ((hb.trans (hb3.mono hb.size)))
        have ha0 : w3.cell? ⟨ga, 0, none⟩ = some (.string (d ++ g ++ (⟨#[47]⟩ : ByteArray))) := cell_later hb3 (hca 0 _ rfl)
        have HA : Hid (∀ j r, (roots d)[j]? = some r → w3.cell? ⟨ga, j + 1, none⟩ = some (.string r)) := fun j r hr => cell_later hb3 (hca (j + 1) _ (by rw [List.getElem?_cons_succ, List.getElem?_map, hr]; rfl))
        have HB : Hid (∀ j r, (roots d)[j]? = some r → w3.cell? ⟨gb, j, none⟩ = some (.string r)) := fun j r hr => hcb j _ (by rw [List.getElem?_map, hr]; rfl)
        clear hv3 hown3 hca hcb hm hm1 hb hb3 HC hixd HL HN
        go_wp2
        go_loopw [9] (fun i wr => ∃ q n : Nat, q ≤ N ∧ i = .int .i64 q ∧ wr = w3.drewN n) (fun i _ => N - (intOf i).toNat)
        case atStart => exact ⟨0, 0, by omega, rfl, rfl⟩
        case round =>
          obtain ⟨q, nn, hq, rfl, rfl⟩ := hrel
          by_cases hlt : q < N
          · have hlen : q < (roots d).length := by rw [HN1.out]; exact hlt
            obtain ⟨r, hr⟩ : ∃ r, (roots d)[q]? = some r := ⟨_, List.getElem?_eq_getElem hlen⟩
            have h1 := HA.out q r hr
            have h2 := HB.out q r hr
            have i1 : (0 : Int) ≤ (q : Int) + 1 := by omega
            have i2 : (q : Int) + 1 < ((N + 1 : Nat) : Int) := by omega
            have i3 : (0 : Int) ≤ (q : Int) := by omega
            have i4 : (q : Int) < (N : Int) := by omega
            clear hr hlen
            go_wp2
            go_region
            all_goals go_wp2
            all_goals go_roundw
            case rel => exact ⟨q + 1, nn + 1, by omega, by go_num, rfl⟩
            case measure => simp [intOf]; omega
          · go_wp2
            go_ret
            exact ⟨rfl, bel_drewN hbw _⟩
      · have HX : Hid (Lib.index (long d g).data.toList pat.data.toList = i) := hix
        clear hix
        go_wp2_with (go_at_call 9; refine (first_dists (long d g) _ (by omega)).mono ?_; rintro e w2 ⟨rfl, n2, rfl⟩; rw [HX.out])
        go_ret
        exact ⟨rfl, bel_drewN (Below.refl _ _) _⟩

theorem folder_any (hc : CutAt) (d g : ByteArray) (m : Int) (w : World) (hd : d.size ≤ maxLen) (hg : g.size ≤ maxLen) (hm : w.cell? ⟨0, 0, none⟩ = some (.int .i64 m)) :
    Calls Try.prog 4 #[.string d, .string g] w fun e w' => e = .returned (.bool true) ∧ Below w.heap.size w w' := by
  by_cases h : 4096 < d.size ∨ 4096 < g.size
  · exact folder_long d g w hd hg h
  · by_cases h1 : d.size = 0 ∨ (0 < d.size ∧ d.data.toList[d.size - 1]? ≠ some 47) ∨ g.size = 0
    · exact folder_bare d g w (by omega) (by omega) h1
    · have e1 : ¬ d.size = 0 := fun e => h1 (.inl e)
      have e2 : d.data.toList[d.size - 1]? = some 47 := Decidable.byContradiction fun e => h1 (.inr (.inl ⟨by omega, e⟩))
      have e3 : ¬ g.size = 0 := fun e => h1 (.inr (.inr e))
      exact folder_main hc d g m w (by omega) (by omega) (by omega) e2 (by omega) hm

end Go.Proofs.Qxb6605357a
