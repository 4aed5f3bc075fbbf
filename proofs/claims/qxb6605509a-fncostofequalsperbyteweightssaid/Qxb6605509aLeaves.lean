/-
  THE WALKS of 'yamlBlank', 'yamlPlain', 'yamlMark'.
-/
import Derived.Test.Qxb6605509aShelf
import Derived.Test.Qxb6605509aPlain
import Derived.WalkKit
import Derived.WalkSpells
namespace Go.Proofs.Qxb6605509a
open Go.RowKit

theorem ret_bool {a b : Bool} (h : a = b) : Ending.returned (.bool a) = .returned (.bool b) := by rw [h]

set_option maxHeartbeats 400000 in
theorem yaml_blank (c : Int) (w : World) :
    Calls Try.prog 18 #[.int .u8 c] w fun e w' => e = .returned (.bool (blank c)) ∧ w' = w := by
  go_enter Try.func18, Try.ntmps18
  go_wp2
  all_goals (go_ret; refine ⟨ret_bool ?_, rfl⟩; first | rfl | (simp only [‹c = _›]; decide))

theorem blank_small {c : Int} (h : blank c = false) (h0 : 0 ≤ c) : 0 ≤ c ∧ c < 128 := by
  simp [blank] at h
  omega

set_option maxHeartbeats 400000 in
theorem yaml_plain (c : Int) (h0 : 0 ≤ c) (h1 : c < 256) (w : World) :
    Calls Try.prog 19 #[.int .u8 c] w fun e w' => e = .returned (.bool (plainB c)) ∧ w' = w := by
  obtain ⟨b, hb⟩ : ∃ b, blank c = b := ⟨_, rfl⟩
  have HB : Hid (blank c = b) := hb
  cases b with
  | true =>
    clear hb
    go_enter Try.func19, Try.ntmps19
    go_wp2_with (go_at_call 18; refine (yaml_blank c _).mono ?_; rintro e w' ⟨rfl, rfl⟩; rw [HB.out])
    go_ret
    exact ⟨ret_bool (by simp [plainB, HB.out]), rfl⟩
  | false =>
    have hs := blank_small hb h0
    have hi := indic_search c hs.1 hs.2
    have HI : Hid (decide (0 ≤ Lib.indexByte (⟨#[44, 91, 93, 123, 125, 63, 58, 34, 39]⟩ : ByteArray).data.toList c.toNat.toUInt8) = indic c) := hi
    obtain ⟨q, hq⟩ : ∃ q, indic c = q := ⟨_, rfl⟩
    have HQ : Hid (indic c = q) := hq
    clear hb hi hq
    go_enter Try.func19, Try.ntmps19
    go_wp2_with (first
      | (go_at_call 18; refine (yaml_blank c _).mono ?_; rintro e w' ⟨rfl, rfl⟩; rw [HB.out])
      | (go_at_call 20; refine (Try.strings_ContainsRune_ascii _ c _ hs.1 hs.2).mono ?_; rintro e w' ⟨rfl, rfl⟩; rw [HI.out, HQ.out]))
    go_ret
    exact ⟨ret_bool (by simp [plainB, HB.out, HQ.out]), rfl⟩

set_option maxHeartbeats 800000 in
theorem mark_core (g n cap i : Nat) (c : Int) (w : World) (hn : n ≤ 1099511627776) (hi : i < n) (hc : w.cell? ⟨g, i, none⟩ = some (.int .u8 c))
    (x p : Int) (hx : i + 1 < n → w.cell? ⟨g, i + 1, none⟩ = some (.int .u8 x)) (hp : 0 < i → w.cell? ⟨g, i - 1, none⟩ = some (.int .u8 p)) (p0 : 0 ≤ p) (p1 : p < 256) :
    Calls Try.prog 16 #[.slice (some ⟨g, 0, none⟩) n cap, .int .i64 i] w fun e w' => e = .returned (.bool (mk (if i = 0 then none else some p) c (if i + 1 < n then some x else none))) ∧ w' = w := by
  obtain ⟨b, hb⟩ : ∃ b, blank x = b := ⟨_, rfl⟩
  have HB : Hid (blank x = b) := hb
  obtain ⟨q, hq⟩ : ∃ q, plainB p = q := ⟨_, rfl⟩
  have HQ : Hid (plainB p = q) := hq
  clear hb hq
  by_cases h1 : i + 1 < n
  · by_cases h2 : i = 0
    · subst h2
      have hx := hx h1
      go_enter Try.func16, Try.ntmps16
      go_wp2_with (go_at_call 18; refine (yaml_blank x _).mono ?_; rintro e w' ⟨rfl, rfl⟩; rw [HB.out])
      all_goals (go_ret; refine ⟨ret_bool ?_, rfl⟩; clear hc hx hp; simp_all [mk, opens, afterB, beforeB, dotB, HB.out, HQ.out])
    · have hx := hx h1
      have hp := hp (by omega)
      have e2 : (((i : Nat) : Int) == 0) = false := by rw [beq_eq_false_iff_ne]; omega
      rw [if_neg h2, if_pos h1]
      go_enter Try.func16, Try.ntmps16
      go_wp2_with (first
        | (go_at_call 18; refine (yaml_blank x _).mono ?_; rintro e w' ⟨rfl, rfl⟩; rw [HB.out])
        | (go_at_call 19; refine (yaml_plain p p0 p1 _).mono ?_; rintro e w' ⟨rfl, rfl⟩; rw [HQ.out]))
      all_goals (go_ret; refine ⟨ret_bool ?_, rfl⟩; clear hc hx hp; simp_all [mk, opens, afterB, beforeB, dotB, HB.out, HQ.out])
  · rw [if_neg h1]
    have e1 : i + 1 = n := by omega
    subst e1
    by_cases h2 : i = 0
    · subst h2
      go_enter Try.func16, Try.ntmps16
      go_wp2
      all_goals (go_ret; refine ⟨ret_bool ?_, rfl⟩; clear hc hx hp; simp_all [mk, opens, afterB, beforeB, dotB, HB.out, HQ.out])
    · have hp := hp (by omega)
      have e2 : (((i : Nat) : Int) == 0) = false := by rw [beq_eq_false_iff_ne]; omega
      rw [if_neg h2]
      go_enter Try.func16, Try.ntmps16
      go_wp2_with (go_at_call 19; refine (yaml_plain p p0 p1 _).mono ?_; rintro e w' ⟨rfl, rfl⟩; rw [HQ.out])
      all_goals (go_ret; refine ⟨ret_bool ?_, rfl⟩; clear hc hx hp; simp_all [mk, opens, afterB, beforeB, dotB, HB.out, HQ.out])

end Go.Proofs.Qxb6605509a
