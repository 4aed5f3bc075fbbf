/-
  THE WALKS of 'distsAt' and 'firstDists'.
-/
import Derived.Test.Qxb6605357aProg
import Derived.Test.Qxb6605357aPlain
import Derived.WalkKit
import Derived.WalkSpells
import Derived.Deep.QuietTactic
import Derived.BigQuiet
namespace Go.Proofs.Qxb6605357a
open Go.RowKit

set_option maxHeartbeats 400000 in
theorem dists_at (s : ByteArray) (j : Nat) (w : World) (hs : s.size ≤ maxLen) (hj : j + 7 ≤ s.size) :
    Calls Try.prog 13 #[.string s, .int .i64 j] w fun e w' => e = .returned (.bool (Lib.occAt s.data.toList pat.data.toList j)) ∧ ∃ n, w' = w.drewN n := by
  unfold maxLen at hs
  go_enter Try.func13, Try.ntmps13
  go_wp2
  go_loopw [5] (fun i wr => ∃ k : Nat, k ≤ 7 ∧ i = .int .i64 k ∧ (∀ m (hm : m < k), m < 7 → s.data.toList[j + m]? = pat.data.toList[m]?) ∧ ∃ n, wr = w.drewN n) (fun i _ => 7 - (intOf i).toNat)
  case atStart => exact ⟨0, by omega, rfl, fun m hm => absurd hm (by omega), 0, rfl⟩
  case round =>
    obtain ⟨k, hk, rfl, hall, n, rfl⟩ := hrel
    by_cases hlt : k < 7
    · have hjk : j + k < s.size := by omega
      have i1 : (j : Int) + (k : Int) < (s.size : Int) := by omega
      have i2 : (0 : Int) ≤ (j : Int) + (k : Int) := by omega
      have i3 : (k : Int) < 7 := by omega
      have i4 : (0 : Int) ≤ (k : Int) := by omega
      have i5 : (k : Int) < ((⟨#[47, 100, 105, 115, 116, 115, 47]⟩ : ByteArray).size : Int) := by show (k : Int) < 7; omega
      go_wp2
      go_region
      go_wp2
      · go_ret
        exact ⟨congrArg _ (congrArg _ (dists_miss s j k hj hlt hjk ‹_›).symm), n + 1, rfl⟩
      · go_roundw
        case rel =>
          refine ⟨k + 1, by omega, by go_num, fun m hm h7 => ?_, n + 1, rfl⟩
          by_cases e : m = k
          · rw [e]; exact dists_step s j k hlt hjk ‹_›
          · exact hall m (by omega) h7
        case measure => simp [intOf]; omega
    · go_wp2
      go_ret
      exact ⟨congrArg _ (congrArg _ (dists_hit s j hj fun m hm => hall m (by omega) hm).symm), n, rfl⟩

theorem index_none_at {s : ByteArray} {j : Nat} (hno : Lib.NoOcc s.data.toList pat.data.toList j) (h : s.size < j + 7) : Lib.index s.data.toList pat.data.toList = -1 :=
  Lib.index_past (by decide) hno (by rw [← Lib.size_eq]; exact h)

set_option maxHeartbeats 400000 in
theorem first_dists (s : ByteArray) (w : World) (hs : s.size ≤ 1000000) :
    Calls Try.prog 9 #[.string s] w fun e w' => e = .returned (.int .i64 (Lib.index s.data.toList pat.data.toList)) ∧ ∃ n, w' = w.drewN n := by
  go_enter Try.func9, Try.ntmps9
  go_wp2
  go_loopw [3] (fun i wr => ∃ j : Nat, j ≤ s.size ∧ i = .int .i64 j ∧ Lib.NoOcc s.data.toList pat.data.toList j ∧ ∃ n, wr = w.drewN n) (fun i _ => s.size + 1 - (intOf i).toNat)
  case atStart => exact ⟨0, by omega, rfl, Lib.NoOcc.zero _ _, 0, rfl⟩
  case round =>
    obtain ⟨j, hj, rfl, hno, n, rfl⟩ := hrel
    by_cases hlt : j + 7 ≤ s.size
    · have HN : Hid (Lib.NoOcc s.data.toList pat.data.toList j) := hno
      clear hno
      obtain ⟨o, ho⟩ : ∃ o, o = Lib.occAt s.data.toList pat.data.toList j := ⟨_, rfl⟩
      have HO : Hid (o = Lib.occAt s.data.toList pat.data.toList j) := ho
      clear ho
      go_wp2_with (go_at_call 13; refine (dists_at s j _ (by unfold maxLen; omega) hlt).mono ?_; rintro e w' ⟨rfl, n', rfl⟩; rw [← HO.out])
      · go_ret
        have ho : o = true := ‹_›
        exact ⟨congrArg _ (congrArg _ (Lib.index_hit HN.out (by rw [← Lib.size_eq]; omega) (HO.out.symm.trans ho)).symm), n + n', rfl⟩
      · have ho : o = false := ‹_›
        go_roundw
        case rel => exact ⟨j + 1, by omega, by go_num, HN.out.succ (HO.out.symm.trans ho), n + n', rfl⟩
        case measure => simp [intOf]; omega
    · go_wp2
      go_ret
      exact ⟨congrArg _ (congrArg _ (index_none_at hno (by omega)).symm), n, rfl⟩
end Go.Proofs.Qxb6605357a
